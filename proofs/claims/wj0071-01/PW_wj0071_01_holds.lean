import PyProof.Rows.All
import Wide.All
import OpenK.AllK
import Wide.FinOn
import PySem.Challenge.RW_wj0071_01
set_option Elab.async false
namespace Mine
section
open _root_.PySem _root_.PySem.W _root_.PySem.Calls _root_.PyProof.Rows
set_option linter.unusedVariables false
set_option linter.deprecated false
noncomputable def okCode : Code → Bool
  | .builtin id _ => !Builtin.Bytes.decodersThatHold.contains id && !guardIds.contains id
  | _ => true
noncomputable def Clean (Γ : Ctx) : Prop := Γ.below.all (fun x => okCode x.1) = true
noncomputable def wpB {α : Type} (M : Model) (A : Around) (t : Sem α) (Q : α → Shared → Prop) (E : Value → Shared → Prop) (s : Shared) : Prop :=
  ∀ Γ p, Γ.In A → okCode Γ.code = true → Clean Γ → Sem.wp M Γ t (fun a _ s' => Q a s') (fun e _ s' => E e s') p s
noncomputable def codeB (M : Model) (A : Around) (c : Code) (R : Result → Shared → Prop) (s : Shared) : Prop :=
  ∀ Γ p, Γ.code = c → Γ.Below A → Clean Γ → wpCode M Γ R p s
section
variable {α β : Type} {M : Model} {A : Around} {E : Value → Shared → Prop} {s : Shared}
theorem wpB.of {t : Sem α} {Q : α → Shared → Prop} (h : wpAny M A t Q E s) : wpB M A t Q E s := fun Γ p hΓ _ _ => h Γ p hΓ
theorem wpB.mono {t : Sem α} {Q Q' : α → Shared → Prop} {E' : Value → Shared → Prop} (h : wpB M A t Q E s) (hQ : ∀ a s, Q a s → Q' a s) (hE : ∀ e s, E e s → E' e s) : wpB M A t Q' E' s :=
  fun Γ p hΓ h1 h2 => Sem.wp_mono M Γ t (fun a _ s => hQ a s) (fun e _ s => hE e s) p s (h Γ p hΓ h1 h2)
theorem wpB.bind {m : Sem α} {f : α → Sem β} {Q : β → Shared → Prop} (h : wpB M A m (fun a s' => wpB M A (f a) Q E s') E s) : wpB M A (m >>= f) Q E s := fun Γ p hΓ h1 h2 => by
  rw [Sem.wp_bind']
  exact Sem.wp_mono M Γ m (fun a p' s' h' => h' Γ p' hΓ h1 h2) (fun _ _ _ h' => h') p s (h Γ p hΓ h1 h2)
theorem wpB.onRaise {m : Sem α} {k : Value → Sem Unit} {Q : α → Shared → Prop} (h : wpB M A m Q (fun e s' => wpB M A (k e) (fun _ s'' => E e s'') E s') s) : wpB M A (m.onRaise k) Q E s := fun Γ p hΓ h1 h2 => by
  rw [Sem.wp_onRaise]
  exact Sem.wp_mono M Γ m (fun _ _ _ h' => h') (fun e p' s' h' => h' Γ p' hΓ h1 h2) p s (h Γ p hΓ h1 h2)
theorem wpB.holding {vs : List Value} {m : Sem α} {Q : α → Shared → Prop} (h : wpB M A m Q E s) : wpB M A (holding vs m) Q E s := fun Γ p hΓ h1 h2 => by rw [Sem.wp_holding]; exact h Γ p hΓ h1 h2
theorem codeB.mono {c : Code} {R R' : Result → Shared → Prop} (h : codeB M A c R s) (hR : ∀ r s, R r s → R' r s) : codeB M A c R' s := fun Γ p hc hΓ h2 => wpCode_mono hR (h Γ p hc hΓ h2)
theorem Clean.enter {Γ : Ctx} (h1 : okCode Γ.code = true) (h2 : Clean Γ) (c : Code) (h : Option Value) (p : Pos) : Clean (Γ.enter c h p) := by
  show ((Γ.code, p) :: Γ.below).all (fun x => okCode x.1) = true
  rw [List.all_cons, h1, h2]; rfl
theorem wpB.runValue {c : Code} {Q : Value → Shared → Prop} (hc : codeB M A c (fun r s' => match r with | .ok (.ret v) => Q v s' | .ok _ => False | .error e => E e s') s) : wpB M A (PySem.runValue c) Q E s :=
  fun Γ p hΓ h1 h2 => by rw [Sem.wp_runValue]; exact hc _ p rfl (hΓ.enter c none p (by intro x; cases x)) (Clean.enter h1 h2 c none p)
theorem wpB.call {f : Value} {pos : List Value} {kw : List (Str × Value)} {Q : Value → Shared → Prop}
    (hc : codeB M A (.call f ⟨pos, kw⟩) (fun r s' => match r with | .ok (.ret v) => Q v s' | .ok _ => False | .error e => E e s') s) : wpB M A (PySem.call f pos kw) Q E s := wpB.runValue hc
theorem codeB.tree {c : Code} {R : Result → Shared → Prop} (ho : okCode c = true)
    (h : wpB M (A.under c) (M.den c) (fun fin s' => match fin with | .done f => R (.ok f) s' | .again c' => c'.quiet = true ∧ codeB M A c' R s') (fun e s' => R (.error e) s') s) : codeB M A c R s := fun Γ p hc hΓ h2 => by
  rw [wpCode_iff_wp, hc]
  refine Sem.wp_mono M Γ _ (fun fin p' s' h' => ?_) (fun _ _ _ h' => h') p s (h Γ p (hc ▸ hΓ.in) (by rw [hc]; exact ho) h2)
  cases fin with
  | done f => exact h'
  | again c' => exact ⟨h'.1, h'.2 (Γ.goto c') p' rfl (hΓ.goto c') h2⟩
/-- nothing is held -/
theorem exported_no {self : Value} {Q : Bool → Shared → Prop} (h : Q false s) : wpB M A (Builtin.Bytes.exported self) Q E s := fun Γ p hΓ h1 h2 => by
  have hall : ((Γ.code, p) :: Γ.below).all (fun x => okCode x.1) = true := by rw [List.all_cons, h1, h2]; rfl
  unfold Builtin.Bytes.exported
  show Q (((Γ.code, p) :: Γ.below).any _) s
  rw [List.any_eq_false.mpr ?_]
  · exact h
  · intro x hx
    have ho := List.all_eq_true.mp hall x hx
    obtain ⟨cd, q⟩ := x
    cases cd with
    | builtin id a =>
      have hb : (!Builtin.Bytes.decodersThatHold.contains id && !guardIds.contains id) = true := ho
      rw [Bool.and_eq_true, Bool.not_eq_true', Bool.not_eq_true'] at hb
      have bad : ∀ l : String, guardIds.contains l = true → id ≠ l := fun l hl e => by rw [e, hl] at hb; exact Bool.noConfusion hb.2
      have n1 := bad "bytearray.__contains__" (by decide +kernel)
      have n2 := bad "bytearray.__mod__" (by decide +kernel)
      have n3 := bad "bytearray.__rmod__" (by decide +kernel)
      have n4 := bad "_struct.pack_into.held" (by decide +kernel)
      have n5 := bad "bytearray.find.held" (by decide +kernel)
      obtain ⟨pos, kw⟩ := a
      delta Builtin.Bytes.exported.match_1
      refine ne_true_of_eq_false ((dif_neg n1).trans ((dif_neg n2).trans ((dif_neg n3).trans ((dif_neg n4).trans ((dif_neg n5).trans ?_)))))
      cases pos with
      | nil => rfl
      | cons v t => exact (congrArg (Builtin.Bytes.sameRef v self && ·) hb.1).trans (Bool.and_false _)
    | _ => exact Bool.false_ne_true
end
end
section
open _root_.PySem _root_.PySem.W _root_.PySem.Calls _root_.PyProof.Rows
set_option linter.unusedVariables false
set_option linter.deprecated false
set_option maxRecDepth 100000
section
variable {α β : Type} {M : Model} {A : Around} {E : Value → Shared → Prop} {s : Shared}
theorem wpB.pure {a : α} {Q : α → Shared → Prop} (h : Q a s) : wpB M A (Pure.pure a) Q E s := wpB.of (wpAny_pure h)
theorem wpB.keep {vs : List Value} {m : Sem α} {Q : α → Shared → Prop} (h : wpB M A m Q E s) : wpB M A (m.keep vs) Q E s := fun Γ p hΓ h1 h2 => by
  rw [Sem.wp_keep]; exact h Γ p hΓ h1 h2
theorem wpB.marked {mk f : Value} {ps : List Value} {kw : List (Str × Value)} {Q : Value → Shared → Prop} (h : wpB M A (PySem.call f ps kw) Q E s) : wpB M A (callMarked mk f ps kw) Q E s := by
  unfold callMarked; exact wpB.keep h
/-- f(..) without stars, where f's calls are kept by a frame of their own or by the machine -/
theorem callWithB {f : Value} {first : List Value} {pos : Pos} {P : Heap → Prop} {k : Keeper} {args : List (Bool × Sem Value)} {keywords : List (Option Str × Sem Value)} {Q : Value → Shared → Prop} (stars : (args.any (·.1) || keywords.any (·.1.isNone)) = false)
    (kind : k = .frame ∨ k = .machine) (hk : ∀ h, P h → Looks M h (keeperOf f) k)
    (h : wpB M A (evalArgs f true args keywords) (fun a s₁ => P s₁.heap ∧ wpB M A (PySem.call f (first ++ a.pos) a.kw) Q E s₁) E s) : wpB M A (callWith pos f first args keywords) Q E s := by
  have back : ∀ {t : Sem Value} {u : Shared}, wpB M A t Q E u → wpB M A (t >>= fun r => PySem.holding [r] point >>= fun _ => Pure.pure r) Q E u :=
    fun x => .bind (.mono x (fun r u y => .of (wpAny_bind (wpAny_holding (wpAny_point (wpAny_pure y))))) fun _ _ y => y)
  unfold callWith
  refine .bind (.holding (.mono h (fun a u x => .bind (.of (wpAny_standAt ?_))) fun _ _ y => y))
  rw [stars]
  refine .bind (.of ((hk _ x.1).here ?_))
  cases kind with
  | inl e =>
    subst e
    dsimp only
    split
    · exact back x.2
    · exact back (wpB.marked x.2)
  | inr e => subst e; exact back x.2
theorem wpB.execs_cons {env : Env} {st : Stmt} {rest : List Stmt} {Q : Flow → Shared → Prop} (h : wpB M A (exec st env) (fun f s' => match f with | .next => wpB M A (execs rest env) Q E s' | f => Q f s') E s) : wpB M A (execs (st :: rest) env) Q E s := fun Γ p hΓ h1 h2 => by
  rw [PySem.execs_cons, Sem.wp_bind']
  refine Sem.wp_mono M Γ _ (fun f p' s' h' => ?_) (fun _ _ _ h' => h') _ _ (h Γ p hΓ h1 h2)
  cases f <;> first | exact h' Γ p' hΓ h1 h2 | exact h'
theorem wpB.Assign_Name {env : Env} {x : Str} {pos' pos : Pos} {value : Expr} {Q : Flow → Shared → Prop} (h : wpB M A (PySem.eval value env) (fun v s₁ => wpAny M A (storeName env x v) (fun _ => Q .next) E s₁) E s)
    (hs : swapsWith value (some (.Name x pos')) pos.line env = Pure.pure false := by rfl) : wpB M A (exec (.Assign [.Name x pos'] value pos) env) Q E s := fun Γ p hΓ h1 h2 => by
  simp only [exec_Assign_Name env x pos' value pos hs, Sem.wp_bind', Sem.wp_cmd_standAt, Sem.wp_bindName, Sem.wp_pure']
  exact Sem.wp_mono M Γ _ (fun v _ s₁ h₁ => h₁ Γ _ hΓ) (fun _ _ _ h' => h') _ _ (h Γ _ hΓ h1 h2)
theorem wpB.Return_some {env : Env} {e : Expr} {pos : Pos} {Q : Flow → Shared → Prop} (h : wpB M A (PySem.eval e env) (fun v => Q (.ret v)) E s) : wpB M A (exec (.Return (some e) pos) env) Q E s := fun Γ p hΓ h1 h2 => by
  simp only [exec_Return_some, Sem.wp_bind', Sem.wp_cmd_standAt, Sem.wp_pure']; exact h Γ _ hΓ h1 h2
theorem wpB.Compare1 {env : Env} {l r : Expr} {op : CmpOp} {pos : Pos} {Q : Value → Shared → Prop}
    (h : wpB M A (PySem.eval l env) (fun a s₁ => wpAny M A (PySem.eval r env) (fun b s₂ => wpAny M A (compareOp op a b) Q E s₂) E s₁) E s)
    (hm : behindInMarks op r = false := by with_unfolding_all rfl) : wpB M A (PySem.eval (.Compare l [op] [r] pos) env) Q E s := fun Γ p hΓ h1 h2 => by
  simp only [eval_Compare1, markedBehindIn_of_false hm, Sem.wp_bind', Sem.wp_holding, Sem.wp_cmd_standAt, Sem.wp_operate]
  exact Sem.wp_mono M Γ _ (fun a p₁ s₁ h₁ => Sem.wp_mono M Γ _ (fun b _ s₂ h₂ => h₂ Γ _ hΓ) (fun _ _ _ h' => h') _ _ (h₁ Γ p₁ hΓ)) (fun _ _ _ h' => h') _ _ (h Γ p hΓ h1 h2)
theorem wpB.Call_ {env : Env} {func : Expr} {args : List Expr} {pos : Pos} {Q : Value → Shared → Prop}
    (h : wpAny M A (PySem.eval func env) (fun f s₁ => wpB M A (callWith pos f [] (backTo pos (starEach args env)) []) Q E s₁) E s)
    (he : PySem.eval (.Call func args [] pos) env = (do callWith pos (← PySem.eval func env) [] (backTo pos (starEach args env)) (backToKw pos (keywordEach [] env))) := by rfl) :
    wpB M A (PySem.eval (.Call func args [] pos) env) Q E s := by
  rw [he]; exact wpB.bind (wpB.of h)
end
section
variable {prog : Program} {w : World} {A : Around} {s : Shared} {R : Result → Shared → Prop}
theorem codeB_builtin {id : String} {args : Args} {b : Builtin} (ho : okCode (.builtin id args) = true) (hb : entryFor table id = some b)
    (h : wpB (model prog w) (A.under (.builtin id args)) (b args)
      (fun fin s' => match fin with | .done f => R (.ok f) s' | .again c' => c'.quiet = true ∧ codeB (model prog w) A c' R s') (fun e s' => R (.error e) s') s) : codeB (model prog w) A (.builtin id args) R s := by
  refine codeB.tree ho ?_
  show wpB _ _ (match entryFor table id with | some b => b args | none => unsupported ((withoutEnding? id "#data").getD id)) _ _ s
  rw [hb]; exact h
theorem codeB_call_builtin {id : String} {args : Args} {b : Builtin} (hq : plainId id = true) (ho : okCode (.builtin id args) = true) (hb : entryFor table id = some b)
    (h : wpAny (model prog w) A.in1 (checkBuiltinCall id args) (fun _ s₁ => wpB (model prog w) A.in1 (b args)
      (fun fin s' => match fin with | .done f => R (.ok f) s' | .again c' => c'.quiet = true ∧ codeB (model prog w) A c' R s') (fun e s' => R (.error e) s') s₁) (fun e s' => R (.error e) s') s) :
    codeB (model prog w) A (.call (.builtin id) args) R s := by
  refine codeB.tree rfl ?_
  show wpB _ A.in1 (do checkBuiltinCall id args; again (.builtin id args)) _ _ s
  refine wpB.bind (wpB.of (wpAny_mono h (fun _ s₁ h₁ => ?_) fun _ _ x => x))
  exact wpB.pure ⟨plainId_quiet hq _, codeB_builtin ho hb (by rw [Around.under_plainId hq]; exact h₁)⟩
/-- a call of a def's function, up to the place where its body begins: the arguments are bound, the new frame's names are made -/
theorem call_enters {a : Addr} {args : Args} {o : Obj} {fd : FuncData} {body : List Stmt} {Z : Env → Shared → Prop} {E : Value → Shared → Prop} (hroom : A.depth < recursionLimit) (ho : s.heap.get? a = some o) (hd : o.data = .func fd)
    (plain : fd.scope.isCoroutine = false ∧ fd.scope.isGenerator = false ∧ fd.body = .stmts body) (hcd : s.heap.CodeRec fd.code fd.qualname)
    (h : wpAny (model prog w) A.in1 (bindArgs fd args) (fun binds s₁ => wpAny (model prog w) A.in1 (newFunctionEnv fd.scope fd.globals fd.closure binds (fd.qualname ++ ".<locals>.") (some a) fd.code none fd.builtins) (fun env s₂ => s₂.heap.NoLimit ∧ Z env s₂) E s₁) E s) :
    wpAny (model prog w) A.in1 (callAny (.ref a) args) (fun fin s' => ∃ env, fin = .again (.func body env) ∧ Z env s') E s := by
  obtain ⟨cr, oc, vs, tq, e, hoc, hdc, hq⟩ := hcd
  rw [e] at h
  unfold callAny
  refine wpAny_bind (wpAny_load ho ?_)
  simp only [hd, callFunction, plain.1, plain.2.1, plain.2.2, e]
  have last : ∀ env u, u.heap.NoLimit ∧ Z env u → wpAny (model prog w) A.in1 (enterFrame >>= fun _ => again (.func body env)) (fun fin s' => ∃ env, fin = .again (.func body env) ∧ Z env s') E u :=
    fun env u x => wpAny_bind (wpAny_enterFrame x.1 hroom (wpAny_pure ⟨env, rfl, x.2⟩))
  exact wpAny_bind (wpAny_field hoc hdc hq (wpAny_bind (wpAny_pure (wpAny_bind (wpAny_mono h (fun _ _ h₁ => wpAny_bind (wpAny_mono h₁ last fun _ _ x => x)) fun _ _ x => x)))))
theorem codeB_call_function {a : Addr} {args : Args} {o : Obj} {fd : FuncData} {body : List Stmt} (hroom : A.depth < recursionLimit) (ho : s.heap.get? a = some o)
    (hd : o.data = .func fd) (plain : fd.scope.isCoroutine = false ∧ fd.scope.isGenerator = false ∧ fd.body = .stmts body) (hcd : s.heap.CodeRec fd.code fd.qualname)
    (h : wpAny (model prog w) A.in1 (bindArgs fd args) (fun binds s₁ => wpAny (model prog w) A.in1 (newFunctionEnv fd.scope fd.globals fd.closure binds (fd.qualname ++ ".<locals>.") (some a) fd.code none fd.builtins)
      (fun env s₂ => s₂.heap.NoLimit ∧ codeB (model prog w) A (.func body env) R s₂) (fun e s' => R (.error e) s') s₁) (fun e s' => R (.error e) s') s) : codeB (model prog w) A (.call (.ref a) args) R s :=
  codeB.tree rfl (wpB.mono (wpB.of (call_enters hroom ho hd plain hcd h)) (fun fin s' x => by obtain ⟨env, rfl, z⟩ := x; exact ⟨rfl, z⟩) fun _ _ x => x)
theorem codeB_func {body : List Stmt} {env : Env}
    (h : ∀ E, wpB (model prog w) (A.deeper env) (execs body env) (fun f s' => R (.ok (.ret (match f with | .ret v => v | _ => .none))) s') E s) : codeB (model prog w) A (.func body env) R s := by
  refine codeB.tree rfl ?_
  show wpB _ (A.deeper env) (do point; match ← (execs body env).onRaise (leaving env) with | .ret v => ret v | _ => ret .none) _ _ s
  refine wpB.bind (wpB.of (wpAny_point (wpB.bind (wpB.onRaise (wpB.mono (h _) (fun f s' h' => ?_) fun _ _ h' => h')))))
  cases f <;> exact wpB.pure h'
end
end
section
open _root_.PySem _root_.PySem.W _root_.PySem.Calls _root_.PyProof.Rows
set_option linter.unusedVariables false
set_option linter.deprecated false
/-- a thread of the caller, its tree judged by the relative logic: it halts, and as the judgement says -/
theorem halts_B {prog : Program} {w : World} {t : Sem Fin} {s : Shared} {G : Result → Shared → Prop} (calm : s.asleep) (bare : ∀ r s', G r s' → AllBare s'.gens)
    (h : wpB (model prog w) callerA t (fun fin s' => ∃ f, fin = .done f ∧ G (.ok f) s') (fun e s' => G (.error e) s') s) :
    ∃ n r s₂ s₃, schedN (denote table) prog w n (.single s ⟨t, .builtin "claim.caller" {}, default, []⟩) = .halted (outcomeOf r) s₂ ∧
      runN (denote table) prog w n s ⟨t, .builtin "claim.caller" {}, default, []⟩ = .halted (outcomeOf r) s₂ ∧ s₂.forget = s₃.forget ∧ G r s₃ := by
  obtain ⟨n, r, s₃, s₂, e⟩ := wp_halts_full (M := model prog w) (R := G) calm (Sem.wp_mono _ _ _ (fun fin _ u x => by
    obtain ⟨f, rfl, g⟩ := x
    exact ⟨g, leftWithCleanup_false_of_bare (bare _ _ g)⟩) (fun _ _ _ g => ⟨g, leftWithCleanup_false_of_bare (bare _ _ g)⟩) _ _ (h _ default caller_in (by decide +kernel) rfl))
  exact ⟨n, r, s₂, s₃, e⟩
/-- the caller ahead of the call: the module as the view tells it, where the def stands, how its arguments read -/
structure Begun (q : Program) (loose : List Str) (XP : (Str → Option Value) → Heap → Prop) (r : RowW) (name : Str) (w : World) (s₀ s : Shared) (mg mb : Str → Option Value) (f : Addr) (args : List WData) (vals : List Value) (as : List Addr) : Prop where
  ground : Ground q loose r.records XP w s₀ mg mb s.heap
  found : mg name = some (.ref f)
  empty : s.gens = #[]
  pre : r.claim.pre args = true
  can : WData.layableAll args = true
  reads : ReadsAllW r.records (classAt s₀.heap) s.heap vals args as
  well : WellAll w.params s.heap vals args
  low : ∀ a ∈ as, (a == sysModules) = false
/-- what is left to show of the call, once the head is done -/
noncomputable abbrev WalkB (q : Program) (loose : List Str) (XP : (Str → Option Value) → Heap → Prop) (YP : World → Heap → Prop) (r : RowW) (name : Str) : Prop :=
  ∀ {w : World} {s₀ s : Shared} {mg mb : Str → Option Value} {f : Addr} {args : List WData} {vals : List Value} {as : List Addr}, YP w s.heap → Begun q loose XP r name w s₀ s mg mb f args vals as →
    wpB (model r.prog w) callerA (PySem.call (.ref f) vals) (fun v => GoodWG r.claim (classAt s₀.heap) (ExcName.means s₀.heap) args s (.ok (.ret v))) (fun e => GoodWG r.claim (classAt s₀.heap) (ExcName.means s₀.heap) args s (.error e)) s
/-- the head over the relative logic; the premises stand in the order in which the head's tactic fills them -/
theorem PySem.W.holds_open {r : OpenRow} {q : Program} {loose : List Str} {Xt : Shared → Bool} {XP : (Str → Option Value) → Heap → Prop} {α : Type} {Yf : Shared → α} {Ya : World → α} {YP : World → Heap → Prop} {d : DefRec} {kwd : List (Str × Expr)} {N : Nat}
    (left : LeftO r.prog q loose Xt Yf Ya N) (hY : ∀ w s, Yf s = Ya w → YP w s.heap) (hYk : ∀ w h h', YP w h → (∀ b o, h.get? b = some o → h'.get? b = some o) → YP w h')
    (hX : ∀ s, Xt s = true → XP (s.heap.nsMap mainGlobals) s.heap) (hXk : ∀ mg h h', XP mg h → (∀ b o, h.get? b = some o → h'.get? b = some o) → XP mg h')
    (hdef : defOf q r.name = some (d, kwd)) (hp : r.prog.theDef r.name = some (d.params, d.body, d.scope)) (hk : kwWritten? d.params.kwonlyargs d.params.kw_defaults = some kwd) (hRf : ∀ s, Xt s = true → RecFacts r.records s.heap) (hwr : (!r.writes || r.records.isEmpty) = true)
    (k1 : r.wellSaid = true) (ok : (chainsOk q && opensWell r.prog && (frees r.toRowW && r.within.isEmpty)) = true) (hb : r.prog.bare) (hw : r.toRowW.promised)
    (call : WalkB q loose XP YP r.toRowW r.name) : r.Holds := by
  simp only [Bool.and_eq_true, List.isEmpty_iff] at ok
  obtain ⟨⟨chains, opens⟩, free, nowhere⟩ := ok
  have parts := frees_parts free
  have ident := ident_freeW parts.2.1 parts.2.2.1 parts.2.2.2.1
  have makers : r.toRowW.claim.makers = [] := by show r.toRowW.makers.map _ = []; rw [parts.2.2.2.2]; rfl
  have top := left.behind (XP := fun mg h => XP mg h ∧ RecFacts r.records h) (fun s x => ⟨hX s x, hRf s x⟩) chains
  refine ⟨k1, hw, ⟨hb, opens, makers⟩, hw.witness, fun w => ⟨(top w).1, fun s' x => ?_⟩⟩
  obtain ⟨s₀, fence, none₀, s, ran, calm, gens, isNs, T, y⟩ := (top w).2 s' x
  have recs := T.X.2
  have bareG : Ground q loose [] XP w s _ _ s.heap := { T := T.T, B := T.B, D := T.D, TE := T.TE, TD := T.TD, W := T.W, X := T.X.1, cls := T.cls, has := T.has, apart := T.apart, once := T.once, K := T.K }
  have fullG := recs.ground bareG
  refine ⟨s₀, fence, none₀, s, ran, ?_, recs.1, recs.2.1, fun args pre can ord perm => ?_⟩
  · intro n m
    split at m
    · rw [List.mem_singleton.mp m]; exact pinned_of_view isNs bareG hdef hp hk
    · cases m
  have gens : s.gens = #[] := Array.eq_empty_of_size_eq_zero (eq_of_beq gens)
  obtain ⟨⟨vs, s₁⟩, lay⟩ := Option.isSome_iff_exists.mp (layAllW_isSome (P := w.params) (ord := ord) fullG.has args r.toRowW.args s (pre_splitW pre).1)
  have kept := layAllW_keeps _ _ _ lay
  have like := layAllW_rest _ _ _ lay
  obtain ⟨as, reads, inside, old⟩ := reads_layAllW perm _ _ _ lay can s₁.heap fun _ _ e => e
  have L : Laid r.records w s s₁ args vs as := { laid := ⟨ord, perm, lay⟩, reads := reads, within := inside, old := old, keeps := kept, gens := like.1.trans gens, os := like.2.2.1 }
  have G := fullG.keeps hXk kept
  obtain ⟨f, -, -, -, -, -, -, found, -⟩ := G.fn hdef
  have judged := call (hYk _ _ _ (hY w s y) kept) ⟨G, found, L.gens, pre, can, reads, L.well, L.low fullG.low⟩
  refine ⟨vs, s₁, lay, ?_⟩
  have ends : ∀ (res : Result) (s' : Shared), _ → _ := fun res s' g => GoodWG.laid (c := r.toRowW.claim) (r := res) (s' := s') parts.1 nowhere ident L g
  have walk : wpB (model r.prog w) callerA (callStub r.name vs).1 (fun fin s' => ∃ f, fin = .done f ∧ GoodWG r.toRowW.claim (classAt s.heap) (ExcName.means s.heap) args s₁ (.ok f) s')
      (fun e s' => GoodWG r.toRowW.claim (classAt s.heap) (ExcName.means s.heap) args s₁ (.error e) s') s₁ := by
    refine wpB.bind (m := nsGet mainNs r.name) (wpB.of (wpAny_nsGet G.T.g ?_))
    rw [found]
    exact wpB.bind (wpB.mono judged (fun v _ g => wpB.pure ⟨.ret v, rfl, g⟩) fun _ _ g => g)
  obtain ⟨n, res, s₂, s₃, sched, run, same, g⟩ := halts_B (G := fun res s' => GoodWG r.toRowW.claim (classAt s.heap) (ExcName.means s.heap) args s₁ res s') (Shared.asleep_of_life like.2.2.2 calm) (fun _ _ g => (ends _ _ g).2.2) walk
  obtain ⟨heap, -, -, os, -⟩ := Shared.forget_eq same
  obtain ⟨done, isOs, -⟩ := ends _ _ g
  refine ⟨n, _, s₂, sched, ?_, fun _ i z e => ?_, fun q => ⟨namesKept_of ran isNs _ kept (heap ▸ g.2.1.old), noTable hwr q⟩, ?_, Shared.rest_eq (os.trans isOs)⟩
  · rcases done.congr heap with ⟨v, rfl, a, b, c, d, e⟩ | ⟨e, ob, cls, rfl, a, b, c, d, e'⟩
    · exact .inl ⟨v, rfl, a, b, c, fun p o z _ => d p o z, e⟩
    · exact .inr ⟨e, ob, cls, rfl, a, b, c, d, fun p o z _ => e' p o z⟩
  · rw [gens] at e; simp at e
  · rw [runN_life _ _ _ run, like.2.2.2]
end
section
open _root_.PySem _root_.PySem.W _root_.PyProof.Rows
local macro_rules | `(tactic| o_head $_) => `(tactic| assumption)
set_option maxRecDepth 100000 in
set_option maxHeartbeats 8000000 in
theorem pre : PySem.Challenge.rw_wj0071_01.row.Holds → PySem.Challenge.rw_wj0071_01.row.Holds := by
  refine fun h => ?_
  x_head
end
section
open _root_.PySem _root_.PySem.W _root_.PySem.Calls _root_.PyProof.Rows
theorem len_one {α : Type} {l : List α} (h : l.length = 1) : ∃ a, l = [a] := by
  cases l with
  | nil => exact nomatch h
  | cons a r =>
    cases r with
    | nil => exact ⟨a, rfl⟩
    | cons b r => exact nomatch (Nat.succ.inj h)
theorem len_two {α : Type} {l : List α} (h : l.length = 2) : ∃ a b, l = [a, b] := by
  cases l with
  | nil => exact nomatch h
  | cons a r => exact ⟨a, (len_one (Nat.succ.inj h)).elim fun b e => ⟨b, by rw [e]⟩⟩
/-- abstract values -/
inductive V where
  | none | bool (b : Bool) | int (i : Int) | str (s : List Nat) | byt (s : List Nat)
  | tup (l : List V) | lst (l : List V) | new (l : List V)
  | idc (d : List (Int × V)) | dct (d : List (Int × V)) | bar (b : List Nat) | brs (b : List Nat) | rng (a st : Int) (n : Nat)
noncomputable def All2 {α β : Type} (R : α → β → Prop) : List α → List β → Prop
  | [], [] => True
  | a :: l, b :: m => R a b ∧ All2 R l m
  | _, _ => False
theorem All2.mono {α β : Type} {R S : α → β → Prop} (h : ∀ a b, R a b → S a b) : ∀ {l : List α} {m : List β}, All2 R l m → All2 S l m
  | [], [], _ => trivial
  | _ :: _, _ :: _, ⟨x, y⟩ => ⟨h _ _ x, All2.mono h y⟩
  | [], _ :: _, x => x.elim
  | _ :: _, [], x => x.elim
theorem All2.length {α β : Type} {R : α → β → Prop} : ∀ {l : List α} {m : List β}, All2 R l m → l.length = m.length
  | [], [], _ => rfl
  | _ :: l, _ :: m, ⟨_, y⟩ => by simp [All2.length y]
  | [], _ :: _, x => x.elim
  | _ :: _, [], x => x.elim
theorem All2.append {α β : Type} {R : α → β → Prop} : ∀ {l : List α} {m : List β} {l' : List α} {m' : List β}, All2 R l m → All2 R l' m' → All2 R (l ++ l') (m ++ m')
  | [], [], _, _, _, y => y
  | _ :: _, _ :: _, _, _, ⟨x, z⟩, y => ⟨x, z.append y⟩
  | [], _ :: _, _, _, x, _ => x.elim
  | _ :: _, [], _, _, x, _ => x.elim
theorem All2.get {α β : Type} {R : α → β → Prop} : ∀ {l : List α} {m : List β} {i : Nat} {a : α}, All2 R l m → l[i]? = some a → ∃ b, m[i]? = some b ∧ R a b
  | _ :: _, b :: _, 0, _, ⟨x, _⟩, e => by simp at e; subst e; exact ⟨b, by simp, x⟩
  | _ :: _, _ :: _, i + 1, _, ⟨_, y⟩, e => by
    simp at e
    obtain ⟨b, h1, h2⟩ := All2.get y e
    exact ⟨b, by simpa using h1, h2⟩
  | [], [], _, _, _, e => by simp at e
  | [], _ :: _, _, _, x, _ => x.elim
  | _ :: _, [], _, _, x, _ => x.elim
theorem All2.get' {α β : Type} {R : α → β → Prop} : ∀ {l : List α} {m : List β} {i : Nat} {b : β}, All2 R l m → m[i]? = some b → ∃ a, l[i]? = some a ∧ R a b
  | a :: _, _ :: _, 0, _, ⟨x, _⟩, e => by simp at e; subst e; exact ⟨a, by simp, x⟩
  | _ :: _, _ :: _, i + 1, _, ⟨_, y⟩, e => by
    simp at e
    obtain ⟨b, h1, h2⟩ := All2.get' y e
    exact ⟨b, by simpa using h1, h2⟩
  | [], [], _, _, _, e => by simp at e
  | [], _ :: _, _, _, x, _ => x.elim
  | _ :: _, [], _, _, x, _ => x.elim
noncomputable def PR : V → Value → Prop
  | .none, w => w = .none
  | .bool b, w => w = .bool b
  | .int i, w => ∃ t, w = .int i t
  | .str s, w => ∃ t, w = .str ⟨s.toArray⟩ t
  | .byt s, w => ∃ b t, w = .bytes b t ∧ b.toList.map UInt8.toNat = s
  | _, _ => False
noncomputable def ER (h : Heap) : V → Value → Prop
  | .tup l, w => ∃ a items, w = .ref a ∧ IsTup h a items ∧ All2 PR l items.toList
  | v, w => PR v w
/-- the heap only grows -/
noncomputable def Ext (h h' : Heap) : Prop := ∀ b o, h.get? b = some o → h'.get? b = some o
theorem Ext.refl (h : Heap) : Ext h h := fun _ _ e => e
theorem Ext.trans {a b c : Heap} (x : Ext a b) (y : Ext b c) : Ext a c := fun _ _ e => y _ _ (x _ _ e)
theorem Ext.push (h : Heap) (o : Obj) : Ext h (h.push o) := fun _ _ e => Heap.get?_push_of_some o e
theorem Ext.none {h h' : Heap} (x : Ext h h') {a : Addr} (e : h'.get? a = none) : h.get? a = none := by
  cases q : h.get? a with
  | none => rfl
  | some o => rw [x _ _ q] at e; cases e
/-- the state moves on: the heap grows, no more -/
structure Sx (s s' : Shared) : Prop where
  x : Ext s.heap s'.heap
  os : s'.os = s.os
  gens : s'.gens = s.gens
/-- nothing outside the heap moves -/
structure Og (s s' : Shared) : Prop where
  os : s'.os = s.os
  gens : s'.gens = s.gens
theorem Sx.refl (s : Shared) : Sx s s := ⟨.refl _, rfl, rfl⟩
theorem Sx.trans {a b c : Shared} (x : Sx a b) (y : Sx b c) : Sx a c := ⟨x.x.trans y.x, y.os.trans x.os, y.gens.trans x.gens⟩
theorem Og.refl (s : Shared) : Og s s := ⟨rfl, rfl⟩
theorem Og.trans {a b c : Shared} (x : Og a b) (y : Og b c) : Og a c := ⟨y.os.trans x.os, y.gens.trans x.gens⟩
theorem Sx.og {s s' : Shared} (x : Sx s s') : Og s s' := ⟨x.os, x.gens⟩
theorem fresh_size (h : Heap) : h.get? h.objs.size = none := by
  cases q : h.get? h.objs.size with
  | none => rfl
  | some o => exact absurd (Heap.lt_size q) (Nat.lt_irrefl _)
/-- an int-keyed dict, by its words -/
noncomputable def DictIs (d : List (Int × V)) (m : Int → Option Value) : Prop := ∀ k, match d.lookup k, m k with | some v, some x => PR v x | none, none => True | _, _ => False
noncomputable def IDict (h : Heap) (a : Addr) (d : List (Int × V)) : Prop := ∃ m, h.IntMap a m ∧ h.DictLe a d.length ∧ DictIs d m
noncomputable def IBar (h : Heap) (a : Addr) (b : List Nat) : Prop := ∃ bs : Array UInt8, h.get? a = some { cls := .type "bytearray", data := .bytearray bs 0 } ∧ bs.toList.map UInt8.toNat = b
noncomputable def IRng (h : Heap) (r : Addr) (x st : Int) (n : Nat) : Prop := ∃ b t u v, IsRange h r x b st t u v ∧ Builtin.Range.small x b st = true ∧ Builtin.Range.rangeSize x b st = n
noncomputable def VR (h₁ h : Heap) : V → Value → Prop
  | .lst l, w => ∃ a items, w = .ref a ∧ h.IsList a items ∧ All2 (ER h) l items.toList
  | .new l, w => ∃ a items, w = .ref a ∧ h₁.get? a = none ∧ h.PlainList a items ∧ All2 (ER h) l items.toList
  | .idc d, w => ∃ a, w = .ref a ∧ h₁.get? a = none ∧ IDict h a d
  | .dct d, w => ∃ a, w = .ref a ∧ IDict h a d
  | .bar b, w => ∃ a, w = .ref a ∧ h₁.get? a = none ∧ IBar h a b
  | .brs b, w => ∃ a, w = .ref a ∧ IBar h a b
  | .rng x st n, w => ∃ a, w = .ref a ∧ IRng h a x st n
  | v, w => ER h v w
theorem ER.mono {h h' : Heap} (x : Ext h h') {v : V} {w : Value} (e : ER h v w) : ER h' v w := by
  cases v with
  | tup l =>
    obtain ⟨a, items, e, t, q⟩ := e
    exact ⟨a, items, e, t.keeps x, q⟩
  | _ => exact e
theorem IDict.mono {h h' : Heap} (x : Ext h h') {a : Addr} {d : List (Int × V)} (y : IDict h a d) : IDict h' a d := by
  obtain ⟨m, ⟨o, es, ep, ho, hc, hd, hi, hf⟩, hz, hm⟩ := y
  exact ⟨m, ⟨o, es, ep, x _ _ ho, hc, hd, hi, hf⟩, hz.of_same ho (x _ _ ho), hm⟩
theorem VR.mono {h₁ h h' : Heap} (x : Ext h h') {v : V} {w : Value} (e : VR h₁ h v w) : VR h₁ h' v w := by
  cases v with
  | lst l =>
    obtain ⟨a, items, e, ⟨o, ho, r⟩, q⟩ := e
    exact ⟨a, items, e, ⟨o, x _ _ ho, r⟩, q.mono fun _ _ => ER.mono x⟩
  | new l =>
    obtain ⟨a, items, e, f, ⟨n, ho⟩, q⟩ := e
    exact ⟨a, items, e, f, ⟨n, x _ _ ho⟩, q.mono fun _ _ => ER.mono x⟩
  | idc d =>
    obtain ⟨a, e, f, d⟩ := e
    exact ⟨a, e, f, d.mono x⟩
  | dct d =>
    obtain ⟨a, e, d⟩ := e
    exact ⟨a, e, d.mono x⟩
  | bar b =>
    obtain ⟨a, e, f, bs, ho, q⟩ := e
    exact ⟨a, e, f, bs, x _ _ ho, q⟩
  | brs b =>
    obtain ⟨a, e, bs, ho, q⟩ := e
    exact ⟨a, e, bs, x _ _ ho, q⟩
  | rng y st n =>
    obtain ⟨a, e, b, t, u, v, ho, q⟩ := e
    exact ⟨a, e, b, t, u, v, x _ _ ho, q⟩
  | tup l => exact ER.mono (v := .tup l) x e
  | _ => exact e
/-- fresh since an earlier heap -/
theorem VR.since {h₀ h₁ h : Heap} (x : Ext h₀ h₁) {v : V} {w : Value} (e : VR h₁ h v w) : VR h₀ h v w := by
  cases v with
  | new l =>
    obtain ⟨a, items, e, f, q⟩ := e
    exact ⟨a, items, e, x.none f, q⟩
  | idc d =>
    obtain ⟨a, e, f, q⟩ := e
    exact ⟨a, e, x.none f, q⟩
  | bar b =>
    obtain ⟨a, e, f, q⟩ := e
    exact ⟨a, e, x.none f, q⟩
  | _ => exact e
/-- what a variable holds: a value, an object of the frame's own, a list at a known place -/
inductive O where
  | list (l : List V) | dict (d : List (Int × V)) | bar (b : List Nat)
inductive S where
  | val (v : V) | own (o : O) | at (a : Addr) (l : List V)
noncomputable abbrev Loc := String → Option S
noncomputable def S.get : S → V
  | .val v => v
  | .own (.list l) => .lst l
  | .own (.dict d) => .dct d
  | .own (.bar b) => .brs b
  | .at _ l => .lst l
noncomputable def upd (ρ : Loc) (x : String) (s : S) : Loc := fun y => if y = x then some s else ρ y
structure Cx where
  prog : Program
  w : World
  K : Frag
  h₀ : Heap
  mg : Str → Option Value
  mb : Str → Option Value
structure Cx.Ok (c : Cx) : Prop where
  k : c.K.In c.h₀
  g : c.h₀.Ns mainGlobals c.mg
  b : c.h₀.Ns builtinsNs c.mb
  nolimit : c.h₀.NoLimit
  builtins : ∀ x : Str, x ≠ "__name__" → c.mb x = bootBuiltins x
noncomputable abbrev Cx.M (c : Cx) : Model := model c.prog c.w
structure Fm where
  sc : Scope
  L : Addr
  cells : List (Str × Addr)
  qual : Str
  func : Option Addr
  code : Value
  frame : Option Addr
  A : Around
  he : Heap
  d : Nat
noncomputable def Fm.env (f : Fm) : Env := { scope := f.sc, locals := f.L, globals := mainGlobals, cells := f.cells, qual := f.qual, func := f.func, code := f.code, frame := f.frame, builtins := builtinsNs }
/-- a frame of a def's -/
noncomputable def fmG (sc : Scope) (cells : List (Str × Addr)) (func : Option Addr) (code : Value) (n : Nat) (f : Fm) : Fm := { sc := sc, L := f.L, cells := cells, qual := f.qual, func := func, code := code, frame := f.frame, A := f.A, he := f.he, d := n }
structure Room (A : Around) (n : Nat) : Prop where
  handled : A.handled = none
  depth : A.depth + 4 * n < recursionLimit
  units : A.units + 40 * n < cLine
theorem Room.depth1 {A : Around} {n : Nat} (r : Room A (n + 1)) : A.depth + 1 + 4 * n < recursionLimit := by have := r.depth; omega
theorem Room.units1 {A : Around} {n : Nat} (r : Room A (n + 1)) : A.units + 3 + 40 * n < cLine := by have := r.units; omega
theorem Room.lt {A : Around} {n : Nat} (r : Room A n) : A.depth < recursionLimit := by have := r.depth; omega
/-- where a name's value lies -/
noncomputable def At (f : Fm) (m : Str → Option Value) (h : Heap) (x : String) (w : Value) : Prop :=
  (f.sc.names.lookup (Str.ofString x) = some .local ∧ m (Str.ofString x) = some w) ∨
  ((f.sc.names.lookup (Str.ofString x) = some .cell ∨ f.sc.names.lookup (Str.ofString x) = some .free) ∧ (Str.ofString x == ("__classdict__" : Str)) = false ∧ ∃ a, f.cells.lookup (Str.ofString x) = some a ∧ h.IsCell a (some w))
noncomputable def OR (h : Heap) (a : Addr) : O → Prop
  | .list l => ∃ items, h.PlainList a items ∧ All2 (ER h) l items.toList
  | .dict d => IDict h a d
  | .bar b => IBar h a b
noncomputable def SR (he h : Heap) (a : Addr) : S → Value → Prop
  | .val (.lst l), w => (∃ b o, w = .ref b ∧ he.get? b = some o) ∧ VR he h (.lst l) w
  | .val v, w => ER h v w
  | .own o, w => w = .ref a ∧ OR h a o
  | .at b l, w => w = .ref b ∧ OR h b (.list l)
structure Rel (c : Cx) (f : Fm) (Z : Addr → Obj → Prop) (ρ : Loc) (h : Heap) (m : Str → Option Value) (ad : String → Addr) : Prop where
  kind : f.sc.kind = .function
  room : Room f.A f.d
  base : ∀ b o, c.h₀.get? b = some o → f.he.get? b = some o
  entry : ∀ b o, f.he.get? b = some o → Z b o
  z : ∀ b o, Z b o → h.get? b = some o
  ns : h.Ns f.L m
  zL : ∀ o, ¬ Z f.L o
  zC : ∀ x a, f.sc.names.lookup x = some .cell → f.cells.lookup x = some a → ∀ o, ¬ Z a o
  cell : ∀ x, f.sc.names.lookup x = some .cell → ∃ a v, f.cells.lookup x = some a ∧ h.IsCell a v
  cinj : ∀ x y a, f.cells.lookup x = some a → f.cells.lookup y = some a → x = y
  var : ∀ x s, ρ x = some s → ∃ w, At f m h x w ∧ SR f.he h (ad x) s w
  own : ∀ x o, ρ x = some (.own o) → ad x ≠ f.L ∧ (∀ o, ¬ Z (ad x) o) ∧ (∀ y o', ρ y = some (.own o') → y ≠ x → ad y ≠ ad x) ∧ ∀ y b l, ρ y = some (.at b l) → b ≠ ad x
  pin : ∀ y z b l l', ρ y = some (.at b l) → ρ z = some (.at b l') → y = z
theorem OR.mono {h h' : Heap} (x : Ext h h') {a : Addr} {o : O} (hs : OR h a o) : OR h' a o := by
  cases o with
  | list l =>
    obtain ⟨items, ⟨n, hp⟩, q⟩ := hs
    exact ⟨items, ⟨n, x _ _ hp⟩, q.mono fun _ _ => ER.mono x⟩
  | dict d => exact IDict.mono x hs
  | bar b =>
    obtain ⟨bs, ho, q⟩ := hs
    exact ⟨bs, x _ _ ho, q⟩
theorem SR.mono {he h h' : Heap} (x : Ext h h') {a : Addr} {s : S} {w : Value} (hs : SR he h a s w) : SR he h' a s w := by
  cases s with
  | val v =>
    cases v with
    | lst l => exact ⟨hs.1, VR.mono (v := .lst l) x hs.2⟩
    | tup l => exact ER.mono (v := .tup l) x hs
    | _ => exact hs
  | own o => exact ⟨hs.1, hs.2.mono x⟩
  | «at» b l => exact ⟨hs.1, hs.2.mono x⟩
theorem At.mono {f : Fm} {m : Str → Option Value} {h h' : Heap} (e : Ext h h') {x : String} {w : Value} (ha : At f m h x w) : At f m h' x w := by
  rcases ha with ha | ⟨k, n, a, e1, o, ho, hd⟩
  · exact .inl ha
  · exact .inr ⟨k, n, a, e1, o, e _ _ ho, hd⟩
theorem Rel.ext {c : Cx} {f : Fm} {Z} {ρ : Loc} {h h' : Heap} {m ad} (R : Rel c f Z ρ h m ad) (x : Ext h h') : Rel c f Z ρ h' m ad where
  kind := R.kind
  room := R.room
  cell := fun y hy => let ⟨a, v, e, o, ho, hd⟩ := R.cell y hy; ⟨a, v, e, o, x _ _ ho, hd⟩
  cinj := R.cinj
  base := R.base
  entry := R.entry
  z := fun b o e => x _ _ (R.z b o e)
  ns := R.ns.keeps x
  zL := R.zL
  zC := R.zC
  own := R.own
  pin := R.pin
  var := fun y s e => by
    obtain ⟨w, ha, hs⟩ := R.var y s e
    exact ⟨w, ha.mono x, hs.mono x⟩
end
section
open _root_.PySem _root_.PySem.W _root_.PySem.Calls _root_.PyProof.Rows
variable {c : Cx} {f : Fm} {ρ : Loc}
noncomputable def WE (c : Cx) (f : Fm) (ρ : Loc) (e : Expr) (Q : V → Prop) : Prop :=
  ∀ (Z : Addr → Obj → Prop) (s : Shared) (E : Value → Shared → Prop) (Qs : Value → Shared → Prop) (m : Str → Option Value) (ad : String → Addr), Rel c f Z ρ s.heap m ad →
    (∀ v w s', Q v → Sx s s' → VR s.heap s'.heap v w → Qs w s') → wpAny c.M f.A (eval e f.env) Qs E s
/-- a test -/
noncomputable def WT (c : Cx) (f : Fm) (ρ : Loc) (e : Expr) (Q : Bool → Prop) : Prop :=
  ∀ (Z : Addr → Obj → Prop) (s : Shared) (E : Value → Shared → Prop) (Qs : Bool → Shared → Prop) (m : Str → Option Value) (ad : String → Addr), Rel c f Z ρ s.heap m ad →
    (∀ b s', Q b → Sx s s' → Qs b s') → wpAny c.M f.A (isTrue e f.env (eval e f.env)) Qs E s
inductive Fl where
  | next | brk | cont | ret (v : V)
noncomputable def FR (he h : Heap) : Fl → Flow → Prop
  | .next, g => g = .next
  | .brk, g => g = .brk
  | .cont, g => g = .cont
  | .ret v, g => ∃ w, g = .ret w ∧ VR he h v w
noncomputable def WX (c : Cx) (f : Fm) (ρ : Loc) (t : Sem Flow) (Q : Fl → Loc → Prop) : Prop :=
  ∀ (Z : Addr → Obj → Prop) (s : Shared) (E : Value → Shared → Prop) (Qs : Flow → Shared → Prop) (m : Str → Option Value) (ad : String → Addr), Rel c f Z ρ s.heap m ad →
    (∀ fl ρ' g s' m' ad', Q fl ρ' → FR f.he s'.heap fl g → Og s s' → Rel c f Z ρ' s'.heap m' ad' → Qs g s') → wpAny c.M f.A t Qs E s
noncomputable def WS (c : Cx) (f : Fm) (ρ : Loc) (st : Stmt) (Q : Fl → Loc → Prop) : Prop := WX c f ρ (exec st f.env) Q
noncomputable def WB (c : Cx) (f : Fm) (ρ : Loc) (sts : List Stmt) (Q : Fl → Loc → Prop) : Prop := WX c f ρ (execs sts f.env) Q
theorem WE.mono {e : Expr} {Q Q' : V → Prop} (h : WE c f ρ e Q) (q : ∀ v, Q v → Q' v) : WE c f ρ e Q' := fun Z s E Qs m ad R k => h Z s E Qs m ad R fun v w s' hv => k v w s' (q v hv)
theorem WT.mono {e : Expr} {Q Q' : Bool → Prop} (h : WT c f ρ e Q) (q : ∀ v, Q v → Q' v) : WT c f ρ e Q' := fun Z s E Qs m ad R k => h Z s E Qs m ad R fun v s' hv => k v s' (q v hv)
theorem WX.mono {t : Sem Flow} {Q Q' : Fl → Loc → Prop} (h : WX c f ρ t Q) (q : ∀ v ρ', Q v ρ' → Q' v ρ') : WX c f ρ t Q' := fun Z s E Qs m ad R k => h Z s E Qs m ad R fun v ρ' g s' m' ad' hv => k v ρ' g s' m' ad' (q v ρ' hv)
theorem WB.nil {Q : Fl → Loc → Prop} (h : Q .next ρ) : WB c f ρ [] Q := fun _ _ _ _ _ _ R k => wpAny_execs_nil (k _ _ _ _ _ _ h rfl (.refl _) R)
noncomputable abbrev seqQ (c : Cx) (f : Fm) (rest : List Stmt) (Q : Fl → Loc → Prop) (fl : Fl) (ρ' : Loc) : Prop := match fl with | .next => WB c f ρ' rest Q | fl => Q fl ρ'
noncomputable abbrev loopQ (I : Loc → Prop) (Q : Fl → Loc → Prop) (fl : Fl) (ρ' : Loc) : Prop := match fl with | .next | .cont => I ρ' | .brk => Q .next ρ' | .ret v => Q (.ret v) ρ'
noncomputable abbrev lessI (Inv : Nat → Loc → Prop) (n : Nat) (ρ' : Loc) : Prop := ∃ m, m < n ∧ Inv m ρ'
noncomputable abbrev retQ (P : V → Prop) (fl : Fl) (_ : Loc) : Prop := match fl with | .ret v => P v | .next => P .none | _ => False
theorem WB.cons {st : Stmt} {rest : List Stmt} {Q : Fl → Loc → Prop} (h : WS c f ρ st (seqQ c f rest Q)) : WB c f ρ (st :: rest) Q :=
  fun Z s E Qs m ad R k => wpAny_execs_cons (h Z s E _ m ad R fun fl ρ' g s' m' ad' hq hg og R' => by
    cases fl with
    | next => cases hg; exact hq Z s' E Qs m' ad' R' fun fl ρ'' g s'' m'' ad'' hq hg og' R'' => k fl ρ'' g s'' m'' ad'' hq hg (og.trans og') R''
    | brk => cases hg; exact k _ _ _ _ _ _ hq rfl og R'
    | cont => cases hg; exact k _ _ _ _ _ _ hq rfl og R'
    | ret v => obtain ⟨w, rfl, hw⟩ := hg; exact k _ _ _ _ _ _ hq ⟨w, rfl, hw⟩ og R')
theorem WS.pass {pos : Pos} {Q : Fl → Loc → Prop} (h : Q .next ρ) : WS c f ρ (.Pass pos) Q := fun _ _ _ _ _ _ R k => wpAny_Pass (k _ _ _ _ _ _ h rfl (.refl _) R)
theorem WS.brk {pos : Pos} {Q : Fl → Loc → Prop} (h : Q .brk ρ) : WS c f ρ (.Break pos) Q := fun _ _ _ _ _ _ R k => wpAny_Break (k _ _ _ _ _ _ h rfl (.refl _) R)
theorem WS.cont {pos : Pos} {Q : Fl → Loc → Prop} (h : Q .cont ρ) : WS c f ρ (.Continue pos) Q := fun _ _ _ _ _ _ R k => wpAny_Continue (k _ _ _ _ _ _ h rfl (.refl _) R)
theorem WS.ite {test : Expr} {body orelse : List Stmt} {pos : Pos} {Q : Fl → Loc → Prop} (h : WT c f ρ test fun b => if b = true then WB c f ρ body Q else WB c f ρ orelse Q) : WS c f ρ (.If test body orelse pos) Q :=
  fun Z s E Qs m ad R k => wpAny_If (h Z s E _ m ad R fun b s' hb x => by
    cases b with
    | true => rw [if_pos rfl] at hb ⊢; exact hb Z s' E Qs m ad (R.ext x.x) fun fl ρ'' g s'' m'' ad'' hq hg og' R'' => k fl ρ'' g s'' m'' ad'' hq hg (x.og.trans og') R''
    | false => rw [if_neg Bool.false_ne_true] at hb ⊢; exact hb Z s' E Qs m ad (R.ext x.x) fun fl ρ'' g s'' m'' ad'' hq hg og' R'' => k fl ρ'' g s'' m'' ad'' hq hg (x.og.trans og') R'')
theorem he_ext {Z : Addr → Obj → Prop} {h : Heap} {m ad} (R : Rel c f Z ρ h m ad) : Ext f.he h := fun b o e => R.z b o (R.entry b o e)
theorem WS.ret {e : Expr} {pos : Pos} {Q : Fl → Loc → Prop} (h : WE c f ρ e fun v => Q (.ret v) ρ) : WS c f ρ (.Return (some e) pos) Q :=
  fun Z s E Qs m ad R k => wpAny_Return_some (h Z s E _ m ad R fun v w s' hq x hv => k _ _ _ _ _ _ hq ⟨w, rfl, hv.since (he_ext R)⟩ x.og (R.ext x.x))
theorem WE.int {i : Int} {k : Nat} {pos : Pos} {Q : V → Prop} (h : Q (.int i)) : WE c f ρ (.Constant (.int i) k pos) Q :=
  fun _ _ _ _ _ _ _ q => wpAny_Constant_int (q _ _ _ h ⟨Ext.refl _, rfl, rfl⟩ ⟨_, rfl⟩)
theorem WE.str {x : Str} {k : Nat} {pos : Pos} {Q : V → Prop} (h : Q (.str x.cps.toList)) : WE c f ρ (.Constant (.str x) k pos) Q :=
  fun _ s _ _ _ _ _ q => wpAny_Constant_str (q _ _ _ h ⟨Ext.refl _, rfl, rfl⟩ ⟨s.toks, by simp⟩)
theorem WE.true_ {b : Bool} {k : Nat} {pos : Pos} {Q : V → Prop} (h : Q (.bool b)) : WE c f ρ (.Constant (.bool b) k pos) Q :=
  fun _ _ _ _ _ _ _ q => wpAny_Constant_bool (q _ _ _ h ⟨Ext.refl _, rfl, rfl⟩ rfl)
theorem WE.none_ {k : Nat} {pos : Pos} {Q : V → Prop} (h : Q .none) : WE c f ρ (.Constant .none k pos) Q :=
  fun _ _ _ _ _ _ _ q => wpAny_Constant_none (q _ _ _ h ⟨Ext.refl _, rfl, rfl⟩ rfl)
theorem WE.bytes {b : List UInt8} {k : Nat} {pos : Pos} {Q : V → Prop} (h : Q (.byt (b.map UInt8.toNat))) : WE c f ρ (.Constant (.bytes b) k pos) Q :=
  fun _ s _ _ _ _ _ q => (show wpAny _ _ (mkTextBytes b.toArray) _ _ _ from wpAny_mkTextBytes (q _ _ _ h ⟨Ext.refl _, rfl, rfl⟩ ⟨_, _, rfl, rfl⟩))
theorem loadName_at {f : Fm} {m : Str → Option Value} {s : Shared} {x : String} {w : Value} {M : Model} {E : Value → Shared → Prop} {Q : Value → Shared → Prop} (hk : f.sc.kind = .function) (hn : s.heap.Ns f.L m) (a : At f m s.heap x w) (q : Q w s) :
    wpAny M f.A (loadName f.env (Str.ofString x)) Q E s := by
  rcases a with ⟨hl, hm⟩ | ⟨hl, hne, b, hb, hc⟩
  · exact wpAny_loadName_local (env := f.env) hk hl hn hm q
  · rcases hl with hl | hl
    · exact wpAny_loadName_cell (env := f.env) hk hl hb hc q
    · exact wpAny_loadName_free (env := f.env) hk hl hb hc q hne
theorem SR.get {he h h₁ : Heap} {a : Addr} {s : S} {w : Value} (hs : SR he h a s w) : VR h₁ h s.get w := by
  cases s with
  | val v =>
    cases v with
    | lst l => exact hs.2
    | new l => exact hs.elim
    | idc l => exact hs.elim
    | dct l => exact hs.elim
    | bar l => exact hs.elim
    | brs l => exact hs.elim
    | rng x y z => exact hs.elim
    | _ => exact hs
  | own o =>
    cases o with
    | list l =>
      obtain ⟨e, items, ⟨n, hp⟩, q⟩ := hs
      exact ⟨_, items, e, ⟨_, hp, rfl, n, rfl⟩, q⟩
    | dict d => exact ⟨_, hs⟩
    | bar b => exact ⟨_, hs⟩
  | «at» b l =>
    obtain ⟨e, items, ⟨n, hp⟩, q⟩ := hs
    exact ⟨_, items, e, ⟨_, hp, rfl, n, rfl⟩, q⟩
theorem WE.name {x : String} {pos : Pos} {Q : V → Prop} {st : S} (h : ρ x = some st) (q : Q st.get) (hd : (Str.ofString x == ("__debug__" : Str)) = false := by decide +kernel) : WE c f ρ (.Name (Str.ofString x) pos) Q :=
  fun Z s E Qs m ad R k => by
    obtain ⟨w, ha, hs⟩ := R.var x st h
    exact wpAny_Name (loadName_at R.kind R.ns ha (k _ _ _ q ⟨Ext.refl _, rfl, rfl⟩ hs.get)) hd
end
section
open _root_.PySem _root_.PySem.W _root_.PySem.Calls _root_.PyProof.Rows
variable {c : Cx} {f : Fm} {ρ : Loc}
theorem upd_self {ρ : Loc} {x : String} {s : S} : upd ρ x s x = some s := if_pos rfl
theorem upd_ne {ρ : Loc} {x y : String} {s : S} (h : y ≠ x) : upd ρ x s y = ρ y := if_neg h
noncomputable def V.store : V → Option S
  | .none => some (.val .none)
  | .bool b => some (.val (.bool b))
  | .int i => some (.val (.int i))
  | .str x => some (.val (.str x))
  | .byt x => some (.val (.byt x))
  | .tup l => some (.val (.tup l))
  | .new l => some (.own (.list l))
  | .idc d => some (.own (.dict d))
  | .bar b => some (.own (.bar b))
  | _ => Option.none
theorem but_get {D : Addr} {h h' : Heap} (hs : Heap.ExtBut D h h') {b : Addr} {o : Obj} (hb : b ≠ D) (e : h.get? b = some o) : h'.get? b = some o := hs b o hb e
theorem ER.but {D : Addr} {h h' : Heap} (hs : Heap.ExtBut D h h') (ht : ∀ a items, IsTup h a items → a ≠ D) {v : V} {w : Value} (e : ER h v w) : ER h' v w := by
  cases v with
  | tup l =>
    obtain ⟨a, items, e, t, q⟩ := e
    have n := ht _ _ t
    obtain ⟨o, ho, r⟩ := t
    exact ⟨a, items, e, ⟨o, but_get hs n ho, r⟩, q⟩
  | _ => exact e
theorem IDict.but {D : Addr} {h h' : Heap} (hs : Heap.ExtBut D h h') {a : Addr} (ha : a ≠ D) {d : List (Int × V)} (y : IDict h a d) : IDict h' a d := by
  obtain ⟨m, hi, hz, hm⟩ := y
  obtain ⟨o, ho⟩ : ∃ o, h.get? a = some o := by obtain ⟨o, _, _, ho, _⟩ := hi; exact ⟨o, ho⟩
  exact ⟨m, hi.extBut hs ha, hz.of_same ho (but_get hs ha ho), hm⟩
theorem OR.but {D : Addr} {h h' : Heap} (hs : Heap.ExtBut D h h') (ht : ∀ a items, IsTup h a items → a ≠ D) {a : Addr} (ha : a ≠ D) {o : O} (y : OR h a o) : OR h' a o := by
  cases o with
  | list l =>
    obtain ⟨items, ⟨n, hp⟩, q⟩ := y
    exact ⟨items, ⟨n, but_get hs ha hp⟩, q.mono fun _ _ => ER.but hs ht⟩
  | dict d => exact IDict.but hs ha y
  | bar b =>
    obtain ⟨bs, ho, q⟩ := y
    exact ⟨bs, but_get hs ha ho, q⟩
theorem VR.lst_but {D : Addr} {h₁ h h' : Heap} (hs : Heap.ExtBut D h h') (ht : ∀ a items, IsTup h a items → a ≠ D) {a : Addr} (ha : a ≠ D) {l : List V} (y : VR h₁ h (.lst l) (.ref a)) : VR h₁ h' (.lst l) (.ref a) := by
  obtain ⟨a', items, e, ⟨o, ho, r⟩, q⟩ := y
  cases e
  exact ⟨a, items, rfl, ⟨o, but_get hs ha ho, r⟩, q.mono fun _ _ => ER.but hs ht⟩
theorem SR.but {he h h' : Heap} {D a : Addr} (hs : Heap.ExtBut D h h') (ht : ∀ a items, IsTup h a items → a ≠ D) (hz : ∀ b o, he.get? b = some o → b ≠ D) {s : S} {w : Value} (n1 : ∀ o, s = .own o → a ≠ D) (n2 : ∀ b l, s = .at b l → b ≠ D) (y : SR he h a s w) : SR he h' a s w := by
  cases s with
  | val v =>
    cases v with
    | lst l =>
      obtain ⟨⟨b, o, e, z⟩, q⟩ := y
      subst e
      exact ⟨⟨b, o, rfl, z⟩, VR.lst_but hs ht (hz b o z) q⟩
    | tup l => exact ER.but (v := .tup l) hs ht y
    | _ => exact y
  | own o => exact ⟨y.1, y.2.but hs ht (n1 o rfl)⟩
  | «at» b l => exact ⟨y.1, y.2.but hs ht (n2 b l rfl)⟩
theorem At.but {m : Str → Option Value} {D : Addr} {h h' : Heap} (hs : Heap.ExtBut D h h') {x : String} {w : Value} (hc : ∀ a v, f.cells.lookup (Str.ofString x) = some a → h.IsCell a v → a ≠ D) (y : At f m h x w) : At f m h' x w := by
  rcases y with y | ⟨k, n, a, e, o, ho, hd⟩
  · exact .inl y
  · exact .inr ⟨k, n, a, e, o, but_get hs (hc a _ e ⟨o, ho, hd⟩) ho, hd⟩
theorem cell_but {D : Addr} {h h' : Heap} (hs : Heap.ExtBut D h h') {a : Addr} (ha : a ≠ D) {v : Option Value} (x : h.IsCell a v) : h'.IsCell a v := let ⟨o, ho, hd⟩ := x; ⟨o, but_get hs ha ho, hd⟩
theorem not_tup_ns {h : Heap} {L a : Addr} {m : Str → Option Value} {items : Array Value} (n : h.Ns L m) (t : IsTup h a items) : a ≠ L := by
  rintro rfl
  obtain ⟨o, es, ep, ho, hd, _⟩ := n
  obtain ⟨o', ho', _, n, hd'⟩ := t
  rw [ho] at ho'; cases ho'; rw [hd] at hd'; cases hd'
theorem not_cell_ns {h : Heap} {L a : Addr} {m : Str → Option Value} {v : Option Value} (n : h.Ns L m) (t : h.IsCell a v) : a ≠ L := by
  rintro rfl
  obtain ⟨o, es, ep, ho, hd, _⟩ := n
  obtain ⟨o', ho', hd'⟩ := t
  rw [ho] at ho'; cases ho'; rw [hd] at hd'; cases hd'
theorem not_tup_cell {h : Heap} {D a : Addr} {v : Option Value} {items : Array Value} (n : h.IsCell D v) (t : IsTup h a items) : a ≠ D := by
  rintro rfl
  obtain ⟨o, ho, hd⟩ := n
  obtain ⟨o', ho', _, n, hd'⟩ := t
  rw [ho] at ho'; cases ho'; rw [hd] at hd'; cases hd'
theorem not_own_ns {h : Heap} {L a : Addr} {m : Str → Option Value} {l : List V} (n : h.Ns L m) (t : OR h a (.list l)) : a ≠ L := by
  rintro rfl
  obtain ⟨o, es, ep, ho, hd, _⟩ := n
  obtain ⟨items, ⟨n, hp⟩, _⟩ := t; rw [ho] at hp; cases hp; cases hd
theorem not_own_cell {h : Heap} {D a : Addr} {v : Option Value} {o : O} (n : h.IsCell D v) (t : OR h a o) : a ≠ D := by
  rintro rfl
  obtain ⟨o', ho, hd⟩ := n
  cases o with
  | list l => obtain ⟨items, ⟨n, hp⟩, _⟩ := t; rw [ho] at hp; cases hp; cases hd
  | dict d => obtain ⟨m, ⟨o2, es, ep, h2, _, hd2, _⟩, _⟩ := t; rw [ho] at h2; cases h2; rw [hd] at hd2; cases hd2
  | bar b => obtain ⟨bs, hp, _⟩ := t; rw [ho] at hp; cases hp; cases hd
theorem not_own_tup {h : Heap} {D a : Addr} {items : Array Value} {o : O} (t : OR h D o) (n : IsTup h a items) : a ≠ D := by
  rintro rfl
  obtain ⟨o', ho, hc, _, hd⟩ := n
  cases o with
  | list l => obtain ⟨items, ⟨n, hp⟩, _⟩ := t; rw [ho] at hp; cases hp; simp at hc
  | dict d => obtain ⟨m, ⟨o2, es, ep, h2, _, hd2, _⟩, _⟩ := t; rw [ho] at h2; cases h2; rw [hd] at hd2; cases hd2
  | bar b => obtain ⟨bs, hp, _⟩ := t; rw [ho] at hp; cases hp; cases hd
theorem OR.some {h : Heap} {a : Addr} {o : O} (t : OR h a o) : ∃ o, h.get? a = some o := by
  cases o with
  | list l => obtain ⟨items, ⟨n, hp⟩, _⟩ := t; exact ⟨_, hp⟩
  | dict d => obtain ⟨m, ⟨o2, es, ep, h2, _⟩, _⟩ := t; exact ⟨_, h2⟩
  | bar b => obtain ⟨bs, hp, _⟩ := t; exact ⟨_, hp⟩
theorem str_inj {x y : String} (h : Str.ofString x = Str.ofString y) : x = y := by
  rw [Str.ofString_eq_toList, Str.ofString_eq_toList] at h
  have h2 : (x.toList.map Char.toNat) = (y.toList.map Char.toNat) := by
    have := congrArg (fun s : Str => s.cps.toList) h
    simpa using this
  have h3 : x.toList = y.toList := by
    have inj : ∀ a b : Char, a.toNat = b.toNat → a = b := fun a b e => Char.ext (UInt32.toNat_inj.mp e)
    revert h2
    generalize x.toList = a
    generalize y.toList = b
    intro h2
    induction a generalizing b with
    | nil => cases b with | nil => rfl | cons _ _ => cases h2
    | cons u us ih => cases b with
      | nil => cases h2
      | cons v vs =>
        simp only [List.map_cons, List.cons.injEq] at h2
        rw [inj _ _ h2.1, ih vs h2.2]
  exact String.toList_injective h3
theorem not_lst_cell {h₁ h : Heap} {D b : Addr} {v : Option Value} {l : List V} (n : h.IsCell D v) (t : VR h₁ h (.lst l) (.ref b)) : b ≠ D := by
  rintro rfl
  obtain ⟨o, ho, hd⟩ := n
  obtain ⟨a, its, e, ⟨o', ho', _, n, hd'⟩, _⟩ := t
  cases e
  rw [ho] at ho'; cases ho'; rw [hd] at hd'; cases hd'
/-- the fresh thing's place is none of the frame's -/
theorem store_parts {Z : Addr → Obj → Prop} {h₁ h : Heap} {m ad} (R₁ : Rel c f Z ρ h₁ m ad) {v : V} {w : Value} {st : S} (hv : VR h₁ h v w) (hs : v.store = some st) :
    ∃ a, SR f.he h a st w ∧ (∀ o, st = .own o → h₁.get? a = none) ∧ ∀ b l, st ≠ .at b l := by
  cases v <;> cases hs
  case none => exact ⟨0, hv, (fun o e => nomatch e), fun _ _ e => nomatch e⟩
  case bool => exact ⟨0, hv, (fun o e => nomatch e), fun _ _ e => nomatch e⟩
  case int => exact ⟨0, hv, (fun o e => nomatch e), fun _ _ e => nomatch e⟩
  case str => exact ⟨0, hv, (fun o e => nomatch e), fun _ _ e => nomatch e⟩
  case byt => exact ⟨0, hv, (fun o e => nomatch e), fun _ _ e => nomatch e⟩
  case tup => exact ⟨0, hv, (fun o e => nomatch e), fun _ _ e => nomatch e⟩
  case new l => obtain ⟨a, items, e, hf, p, q⟩ := hv; exact ⟨a, ⟨e, items, p, q⟩, (fun _ _ => hf), fun _ _ e => nomatch e⟩
  case idc d => obtain ⟨a, e, hf, p⟩ := hv; exact ⟨a, ⟨e, p⟩, (fun _ _ => hf), fun _ _ e => nomatch e⟩
  case bar b => obtain ⟨a, e, hf, p⟩ := hv; exact ⟨a, ⟨e, p⟩, (fun _ _ => hf), fun _ _ e => nomatch e⟩
/-- a place apart from all that the frame holds -/
structure Apart (f : Fm) (Z : Addr → Obj → Prop) (ρ : Loc) (ad : String → Addr) (x : String) (a : Addr) : Prop where
  L : a ≠ f.L
  z : ∀ o, ¬ Z a o
  own : ∀ y o, ρ y = some (.own o) → y ≠ x → ad y ≠ a
  pin : ∀ y b l, ρ y = some (.at b l) → y ≠ x → b ≠ a
theorem apart_of {Z : Addr → Obj → Prop} {h₁ : Heap} {m ad} (R₁ : Rel c f Z ρ h₁ m ad) {x : String} {a : Addr} (fr : h₁.get? a = none) : Apart f Z ρ ad x a where
  L := by
    rintro rfl
    obtain ⟨o, _, _, ho, _⟩ := R₁.ns
    rw [fr] at ho; cases ho
  z := fun o z => by
    have := R₁.z a o z
    rw [fr] at this; cases this
  own := fun z o' ez _ q => by
    obtain ⟨w', _, hs'⟩ := R₁.var z _ ez
    obtain ⟨ob, hob⟩ := hs'.2.some
    rw [q, fr] at hob; cases hob
  pin := fun z b l ez _ q => by
    obtain ⟨w', _, hw, hs'⟩ := R₁.var z _ ez
    obtain ⟨ob, hob⟩ := hs'.some
    rw [q, fr] at hob; cases hob
noncomputable def adOf (ad : String → Addr) (x : String) (a : Addr) : String → Addr := fun y => if y = x then a else ad y
theorem adOf_self {ad : String → Addr} {x : String} {a : Addr} : adOf ad x a x = a := if_pos rfl
theorem adOf_ne {ad : String → Addr} {x y : String} {a : Addr} (h : y ≠ x) : adOf ad x a y = ad y := if_neg h
theorem own_put {Z : Addr → Obj → Prop} {h : Heap} {m ad} (R : Rel c f Z ρ h m ad) {x : String} {a : Addr} {st : S} (fa : ∀ o, st = .own o → Apart f Z ρ ad x a) (hat : ∀ b l, st ≠ .at b l) :
    ∀ y o, upd ρ x st y = some (.own o) → adOf ad x a y ≠ f.L ∧ (∀ o, ¬ Z (adOf ad x a y) o) ∧ (∀ z o', upd ρ x st z = some (.own o') → z ≠ y → adOf ad x a z ≠ adOf ad x a y) ∧ ∀ z b l, upd ρ x st z = some (.at b l) → b ≠ adOf ad x a y := by
  intro y o e
  by_cases hy : y = x
  · subst hy
    rw [adOf_self]
    have e := Option.some.inj (upd_self.symm.trans e)
    have F := fa o e
    refine ⟨F.L, F.z, fun z o' ez hz => ?_, fun z b l ez => ?_⟩
    · rw [adOf_ne hz]
      rw [upd_ne hz] at ez
      exact F.own z o' ez hz
    · by_cases hz : z = y
      · subst hz; exact absurd (Option.some.inj (upd_self.symm.trans ez)) (hat b l)
      · rw [upd_ne hz] at ez; exact F.pin z b l ez hz
  · rw [adOf_ne hy]
    rw [upd_ne hy] at e
    obtain ⟨g1, g2, g3, g4⟩ := R.own y o e
    refine ⟨g1, g2, fun z o' ez hz => ?_, fun z b l ez => ?_⟩
    · by_cases hzx : z = x
      · subst hzx
        rw [adOf_self]
        have ez := Option.some.inj (upd_self.symm.trans ez)
        exact fun q => (fa o' ez).own y o e hy q.symm
      · rw [adOf_ne hzx]
        rw [upd_ne hzx] at ez
        exact g3 z o' ez hz
    · by_cases hz : z = x
      · subst hz; exact absurd (Option.some.inj (upd_self.symm.trans ez)) (hat b l)
      · rw [upd_ne hz] at ez; exact g4 z b l ez
theorem pin_put {Z : Addr → Obj → Prop} {h : Heap} {m ad} (R : Rel c f Z ρ h m ad) {x : String} {st : S} (hat : ∀ b l, st ≠ .at b l) : ∀ y z b l l', upd ρ x st y = some (.at b l) → upd ρ x st z = some (.at b l') → y = z := by
  have key : ∀ y b l, upd ρ x st y = some (.at b l) → ρ y = some (.at b l) := fun y b l e => by
    by_cases hy : y = x
    · subst hy; exact absurd (Option.some.inj (upd_self.symm.trans e)) (hat b l)
    · rwa [upd_ne hy] at e
  exact fun y z b l l' e1 e2 => R.pin y z b l l' (key y b l e1) (key z b l' e2)
/-- a store into a local name -/
theorem store_local {Z : Addr → Obj → Prop} {s : Shared} {m ad} (R : Rel c f Z ρ s.heap m ad) {w : Value} {st : S} {a : Addr} (hsr : SR f.he s.heap a st w) {x : String} (fa : ∀ o, st = .own o → Apart f Z ρ ad x a) (hat : ∀ b l, st ≠ .at b l)
    (hl : f.sc.names.lookup (Str.ofString x) = some .local)
    {E : Value → Shared → Prop} {Q : Unit → Shared → Prop} (h : ∀ h' m', Heap.SameBut f.L s.heap h' → Rel c f Z (upd ρ x st) h' m' (adOf ad x a) → Q () { s with heap := h', toks := s.toks + 1 }) : wpAny c.M f.A (storeName f.env (Str.ofString x) w) Q E s := by
  have own' := own_put R (st := st) fa hat
  refine wpAny_storeName_local (env := f.env) hl R.ns (fun h' hns hsb => h h' (fun y => if y = Str.ofString x then some w else m y) hsb ?_) ?_
  · have hsb : Heap.ExtBut f.L s.heap h' := Heap.SameBut.extBut hsb
    have hz : ∀ b o, f.he.get? b = some o → b ≠ f.L := fun b o e q => R.zL o (q ▸ R.entry b o e)
    have ht : ∀ a items, IsTup s.heap a items → a ≠ f.L := fun a items t => not_tup_ns R.ns t
    refine ⟨R.kind, R.room, R.base, R.entry, fun b o z => ?_, hns, R.zL, R.zC, fun y hy => ?_, R.cinj, fun y st' e => ?_, own', pin_put R hat⟩
    · exact but_get hsb (fun e => R.zL o (e ▸ z)) (R.z b o z)
    · obtain ⟨a, v, e, hcell⟩ := R.cell y hy
      exact ⟨a, v, e, cell_but hsb (not_cell_ns R.ns hcell) hcell⟩
    · by_cases hy : y = x
      · subst hy
        have e0 := e
        have e := Option.some.inj (upd_self.symm.trans e)
        subst e
        refine ⟨w, .inl ⟨hl, by simp⟩, ?_⟩
        rw [adOf_self]
        exact hsr.but hsb ht hz (fun o e => (fa o e).L) fun b l e => absurd e (hat b l)
      · have e0 := e
        rw [upd_ne hy] at e
        obtain ⟨w', ha', hs'⟩ := R.var y st' e
        refine ⟨w', ?_, ?_⟩
        · have q := ha'.but hsb (fun a v _ hcell => not_cell_ns R.ns hcell)
          rcases q with ⟨q1, q2⟩ | q
          · exact .inl ⟨q1, (if_neg (fun q => hy (str_inj q))).trans q2⟩
          · exact .inr q
        · rw [adOf_ne hy]
          refine hs'.but hsb ht hz (fun o e' => (R.own y o (e' ▸ e)).1) fun b l e' => ?_
          subst e'
          exact not_own_ns R.ns hs'.2
  · show (f.sc.kind == .class || (f.sc.kind == .module && _)) = false
    rw [R.kind]; rfl
theorem store_cell {Z : Addr → Obj → Prop} {s : Shared} {m ad} (R : Rel c f Z ρ s.heap m ad) {w : Value} {st : S} {a : Addr} (hsr : SR f.he s.heap a st w) {x : String} (fa : ∀ o, st = .own o → Apart f Z ρ ad x a) (hat : ∀ b l, st ≠ .at b l)
    (hl : f.sc.names.lookup (Str.ofString x) = some .cell) (hn : (Str.ofString x == ("__classdict__" : Str)) = false)
    {E : Value → Shared → Prop} {Q : Unit → Shared → Prop} (h : ∀ h', Rel c f Z (upd ρ x st) h' m (adOf ad x a) → Q () { s with heap := h' }) : wpAny c.M f.A (storeName f.env (Str.ofString x) w) Q E s := by
  have own' := own_put R (st := st) fa hat
  obtain ⟨b, v₀, hb, hc⟩ := R.cell _ hl
  refine wpAny_storeName_cell (env := f.env) R.kind hl hb hc fun h' hc' hsb' => h h' ?_
  have hsb : Heap.ExtBut b s.heap h' := Heap.SameBut.extBut hsb'
  have hz : ∀ b' o, f.he.get? b' = some o → b' ≠ b := fun b' o e q => R.zC _ _ hl hb o (q ▸ R.entry b' o e)
  have ht : ∀ a items, IsTup s.heap a items → a ≠ b := fun a items t => not_tup_cell hc t
  have hLb : f.L ≠ b := fun e => not_cell_ns R.ns hc e.symm
  refine ⟨R.kind, R.room, R.base, R.entry, fun b' o z => ?_, R.ns.sameBut hsb' hLb, R.zL, R.zC, fun y hy => ?_, R.cinj, fun y st' e => ?_, own', pin_put R hat⟩
  · exact but_get hsb (fun e => R.zC _ _ hl hb o (e ▸ z)) (R.z b' o z)
  · obtain ⟨a, v, e, hcell⟩ := R.cell y hy
    by_cases q : a = b
    · exact ⟨a, some w, e, q ▸ hc'⟩
    · exact ⟨a, v, e, cell_but hsb q hcell⟩
  · by_cases hy : y = x
    · subst hy
      have e := Option.some.inj (upd_self.symm.trans e)
      subst e
      refine ⟨w, .inr ⟨.inl hl, hn, b, hb, hc'⟩, ?_⟩
      rw [adOf_self]
      exact hsr.but hsb ht hz (fun o e => by subst e; exact not_own_cell hc hsr.2) fun b l e => absurd e (hat b l)
    · rw [upd_ne hy] at e
      obtain ⟨w', ha', hs'⟩ := R.var y st' e
      refine ⟨w', ?_, ?_⟩
      · exact ha'.but hsb fun a v ha hcell q => hy (str_inj (R.cinj _ _ _ (q ▸ ha) hb))
      · rw [adOf_ne hy]
        refine hs'.but hsb ht hz (fun o e => by subst e; exact not_own_cell hc hs'.2) fun b l e' => ?_
        subst e'
        exact not_own_cell hc hs'.2
noncomputable abbrev NameOk (f : Fm) (x : String) : Prop := f.sc.names.lookup (Str.ofString x) = some .local ∨ (f.sc.names.lookup (Str.ofString x) = some .cell ∧ (Str.ofString x == ("__classdict__" : Str)) = false)
theorem store_rel {Z : Addr → Obj → Prop} {h₁ : Heap} {s : Shared} {m ad} (R₁ : Rel c f Z ρ h₁ m ad) (x₁ : Ext h₁ s.heap) {v : V} {w : Value} {st : S} (hv : VR h₁ s.heap v w) (hst : v.store = some st)
    {x : String} (hk : NameOk f x)
    {E : Value → Shared → Prop} {Q : Unit → Shared → Prop} (h : ∀ s' m' ad', Og s s' → Rel c f Z (upd ρ x st) s'.heap m' ad' → Q () s') : wpAny c.M f.A (storeName f.env (Str.ofString x) w) Q E s := by
  obtain ⟨a, hsr, hfr, hat⟩ := store_parts R₁ hv hst
  have fa : ∀ o, st = .own o → Apart f Z ρ ad x a := fun o e => apart_of R₁ (hfr o e)
  rcases hk with hl | ⟨hl, hn⟩
  · exact store_local (R₁.ext x₁) hsr fa hat hl fun h' m' _ R' => h { s with heap := h', toks := s.toks + 1 } _ _ ⟨rfl, rfl⟩ R'
  · exact store_cell (R₁.ext x₁) hsr fa hat hl hn fun h' R' => h { s with heap := h' } _ _ ⟨rfl, rfl⟩ R'
end
section
open _root_.PySem _root_.PySem.W _root_.PySem.Calls _root_.PyProof.Rows
variable {c : Cx} {f : Fm} {ρ : Loc}
theorem base_ext {Z : Addr → Obj → Prop} {h : Heap} {m ad} (R : Rel c f Z ρ h m ad) : Ext c.h₀ h := fun b o e => R.z b o (R.entry b o (R.base b o e))
/-- an operation of two values -/
noncomputable def Op2 (c : Cx) (t : Value → Value → Sem Value) (va vb r : V) : Prop :=
  ∀ (wa wb : Value) (h₁ h₂ : Heap) (A : Around) (s : Shared) (E : Value → Shared → Prop) (Qs : Value → Shared → Prop), Room A 0 → Ext c.h₀ s.heap → VR h₁ s.heap va wa → VR h₂ s.heap vb wb →
    (∀ w s', Sx s s' → VR s.heap s'.heap r w → Qs w s') → wpAny c.M A (t wa wb) Qs E s
noncomputable def Op1 (c : Cx) (t : Value → Sem Value) (va r : V) : Prop :=
  ∀ (wa : Value) (h₁ : Heap) (A : Around) (s : Shared) (E : Value → Shared → Prop) (Qs : Value → Shared → Prop), Room A 0 → Ext c.h₀ s.heap → VR h₁ s.heap va wa →
    (∀ w s', Sx s s' → VR s.heap s'.heap r w → Qs w s') → wpAny c.M A (t wa) Qs E s
noncomputable def Op1B (c : Cx) (t : Value → Sem Bool) (va : V) (r : Bool) : Prop :=
  ∀ (wa : Value) (h₁ : Heap) (A : Around) (s : Shared) (E : Value → Shared → Prop) (Qs : Bool → Shared → Prop), Room A 0 → Ext c.h₀ s.heap → VR h₁ s.heap va wa →
    (∀ s', Sx s s' → Qs r s') → wpAny c.M A (t wa) Qs E s
theorem Room.zero {A : Around} {n : Nat} (r : Room A n) : Room A 0 := ⟨r.handled, by have := r.depth; omega, by have := r.units; omega⟩
theorem WE.two {a b e : Expr} {t : Value → Value → Sem Value} (he : ∀ {s : Shared} {E : Value → Shared → Prop} {Q : Value → Shared → Prop}, wpAny c.M f.A (eval a f.env) (fun x s₁ => wpAny c.M f.A (eval b f.env) (fun y s₂ => wpAny c.M f.A (t x y) Q E s₂) E s₁) E s → wpAny c.M f.A (eval e f.env) Q E s)
    {Q : V → Prop} (h : WE c f ρ a fun va => WE c f ρ b fun vb => ∃ r, Op2 c t va vb r ∧ Q r) : WE c f ρ e Q :=
  fun Z s E Qs m ad R k => he (h Z s E _ m ad R fun va wa s₁ hb x₁ v₁ => hb Z s₁ E _ m ad (R.ext x₁.x) fun vb wb s₂ hr x₂ v₂ => by
    obtain ⟨r, ho, hq⟩ := hr
    exact ho wa wb s.heap s₁.heap f.A s₂ E _ R.room.zero (base_ext (R.ext (x₁.trans x₂).x)) (v₁.mono x₂.x) v₂ fun w s' x₃ v₃ => k r w s' hq ((x₁.trans x₂).trans x₃) (v₃.since (x₁.trans x₂).x))
theorem WE.one {a e : Expr} {t : Value → Sem Value} (he : ∀ {s : Shared} {E : Value → Shared → Prop} {Q : Value → Shared → Prop}, wpAny c.M f.A (eval a f.env) (fun x s₁ => wpAny c.M f.A (t x) Q E s₁) E s → wpAny c.M f.A (eval e f.env) Q E s)
    {Q : V → Prop} (h : WE c f ρ a fun va => ∃ r, Op1 c t va r ∧ Q r) : WE c f ρ e Q :=
  fun Z s E Qs m ad R k => he (h Z s E _ m ad R fun va wa s₁ hr x₁ v₁ => by
    obtain ⟨r, ho, hq⟩ := hr
    exact ho wa s.heap f.A s₁ E _ R.room.zero (base_ext (R.ext x₁.x)) v₁ fun w s' x₃ v₃ => k r w s' hq (x₁.trans x₃) (v₃.since x₁.x))
theorem WE.bin {a b : Expr} {op : Operator} {pos : Pos} {Q : V → Prop} (h : WE c f ρ a fun va => WE c f ρ b fun vb => ∃ r, Op2 c (binaryOp op) va vb r ∧ Q r) : WE c f ρ (.BinOp a op b pos) Q := WE.two (fun h => wpAny_BinOp h) h
theorem WE.cmp {a b : Expr} {op : CmpOp} {pos : Pos} {Q : V → Prop} (h : WE c f ρ a fun va => WE c f ρ b fun vb => ∃ r, Op2 c (compareOp op) va vb r ∧ Q r)
    (hm : behindInMarks op b = false := by with_unfolding_all rfl) : WE c f ρ (.Compare a [op] [b] pos) Q := WE.two (fun h => wpAny_Compare1 h hm) h
theorem WE.sub {a b : Expr} {pos : Pos} {Q : V → Prop} (h : WE c f ρ a fun va => WE c f ρ b fun vb => ∃ r, Op2 c (subscriptTail a b) va vb r ∧ Q r) : WE c f ρ (.Subscript a b pos) Q := WE.two (fun h => Subscript_ h) h
theorem WE.un {a : Expr} {op : UnaryOp} {pos : Pos} {Q : V → Prop} (h : WE c f ρ a fun va => ∃ r, Op1 c (unaryOp op) va r ∧ Q r) : WE c f ρ (.UnaryOp op a pos) Q := WE.one (fun h => wpAny_UnaryOp h) h
theorem WE.ifexp {t a b : Expr} {pos : Pos} {Q : V → Prop} (h : WT c f ρ t fun b' => if b' = true then WE c f ρ a Q else WE c f ρ b Q) : WE c f ρ (.IfExp t a b pos) Q :=
  fun Z s E Qs m ad R k => wpAny_IfExp (h Z s E _ m ad R fun b s' hb x => by
    cases b with
    | true => rw [if_pos rfl] at hb ⊢; exact hb Z s' E Qs m ad (R.ext x.x) fun v w s'' q x' v' => k v w s'' q (x.trans x') (v'.since x.x)
    | false => rw [if_neg Bool.false_ne_true] at hb ⊢; exact hb Z s' E Qs m ad (R.ext x.x) fun v w s'' q x' v' => k v w s'' q (x.trans x') (v'.since x.x))
theorem WT.value {e : Expr} {Q : Bool → Prop} (h : WE c f ρ e fun v => ∃ b, Op1B c truthy v b ∧ Q b)
    (he : isTrue e f.env (eval e f.env) = (do let v ← eval e f.env; standAt e.pos; holding [v] (truthy v)) := by rfl) : WT c f ρ e Q :=
  fun Z s E Qs m ad R k => wpAny_isTrue_value (h Z s E _ m ad R fun v w s' hb x hv => by
    obtain ⟨b, ho, hq⟩ := hb
    exact ho w s.heap f.A s' E _ R.room.zero (base_ext (R.ext x.x)) hv fun s'' x' => k b s'' hq (x.trans x')) he
theorem WT.cmp {a b : Expr} {op : CmpOp} {pos : Pos} {Q : Bool → Prop} (h : WE c f ρ a fun va => WE c f ρ b fun vb => ∃ r, Op2 c (compareOp op) va vb (.bool r) ∧ Q r)
    (hm : behindInMarks op b = false := by with_unfolding_all rfl) : WT c f ρ (.Compare a [op] [b] pos) Q :=
  fun Z s E Qs m ad R k => wpAny_isTrue_Compare1 (h Z s E _ m ad R fun va wa s₁ hb x₁ v₁ => hb Z s₁ E _ m ad (R.ext x₁.x) fun vb wb s₂ hr x₂ v₂ => by
    obtain ⟨r, ho, hq⟩ := hr
    refine ho wa wb s.heap s₁.heap f.A s₂ E _ R.room.zero (base_ext (R.ext (x₁.trans x₂).x)) (v₁.mono x₂.x) v₂ fun w s' x₃ v₃ => ?_
    cases v₃
    exact wpAny_truthy_bool (k r s' hq ((x₁.trans x₂).trans x₃))) hm
theorem WT.not {a : Expr} {pos : Pos} {Q : Bool → Prop} (h : WT c f ρ a fun b => Q (!b)) : WT c f ρ (.UnaryOp .Not a pos) Q :=
  fun Z s E Qs m ad R k => wpAny_isTrue_Not (h Z s E _ m ad R fun b s' hb x => k _ s' hb x)
noncomputable def WAll (c : Cx) (f : Fm) (ρ : Loc) (op : BoolOp) (es : List Expr) (Q : Bool → Prop) : Prop :=
  ∀ (Z : Addr → Obj → Prop) (s : Shared) (E : Value → Shared → Prop) (Qs : Bool → Shared → Prop) (m : Str → Option Value) (ad : String → Addr), Rel c f Z ρ s.heap m ad →
    (∀ b s', Q b → Sx s s' → Qs b s') → wpAny c.M f.A (allTrue op es f.env) Qs E s
theorem WT.bool {op : BoolOp} {es : List Expr} {pos : Pos} {Q : Bool → Prop} (h : WAll c f ρ op es Q) : WT c f ρ (.BoolOp op es pos) Q :=
  fun Z s E Qs m ad R k => wpAny_isTrue_BoolOp (h Z s E Qs m ad R k)
theorem WAll.and_nil {Q : Bool → Prop} (h : Q true) : WAll c f ρ .And [] Q := fun _ _ _ _ _ _ _ k => wpAny_allTrue_And_nil (k _ _ h ⟨Ext.refl _, rfl, rfl⟩)
theorem WAll.or_nil {Q : Bool → Prop} (h : Q false) : WAll c f ρ .Or [] Q := fun _ _ _ _ _ _ _ k => wpAny_allTrue_Or_nil (k _ _ h ⟨Ext.refl _, rfl, rfl⟩)
theorem WAll.and_cons {e : Expr} {es : List Expr} {Q : Bool → Prop} (h : WT c f ρ e fun b => if b = true then WAll c f ρ .And es Q else Q false) : WAll c f ρ .And (e :: es) Q :=
  fun Z s E Qs m ad R k => wpAny_allTrue_And_cons (h Z s E _ m ad R fun b s' hb x => by
    cases b with
    | true => rw [if_pos rfl] at hb ⊢; exact hb Z s' E Qs m ad (R.ext x.x) fun b s'' q x' => k b s'' q (x.trans x')
    | false => rw [if_neg Bool.false_ne_true] at hb ⊢; exact k _ _ hb x)
theorem WAll.or_cons {e : Expr} {es : List Expr} {Q : Bool → Prop} (h : WT c f ρ e fun b => if b = true then Q true else WAll c f ρ .Or es Q) : WAll c f ρ .Or (e :: es) Q :=
  fun Z s E Qs m ad R k => wpAny_allTrue_Or_cons (h Z s E _ m ad R fun b s' hb x => by
    cases b with
    | true => rw [if_pos rfl] at hb ⊢; exact k _ _ hb x
    | false => rw [if_neg Bool.false_ne_true] at hb ⊢; exact hb Z s' E Qs m ad (R.ext x.x) fun b s'' q x' => k b s'' q (x.trans x'))
/-- values in a row, each prim or a tuple of prims -/
noncomputable def WEs (c : Cx) (f : Fm) (ρ : Loc) : List Expr → (List V → Prop) → Prop
  | [], Q => Q []
  | e :: es, Q => WE c f ρ e fun v => WEs c f ρ es fun vs => Q (v :: vs)
inductive VRs (h : Heap) : Heap → List V → List Value → Prop
  | nil (h₁ : Heap) : VRs h h₁ [] []
  | cons {h₁ h₂ : Heap} {v : V} {w : Value} {vs : List V} {ws : List Value} : VR h₁ h v w → Ext h₁ h₂ → VRs h h₂ vs ws → VRs h h₁ (v :: vs) (w :: ws)
theorem VRs.mono {h h' h₁ : Heap} (x : Ext h h') {vs : List V} {ws : List Value} (y : VRs h h₁ vs ws) : VRs h' h₁ vs ws := by
  revert x
  induction y with
  | nil => exact fun _ => .nil _
  | cons a b _ ih => exact fun x => .cons (a.mono x) b (ih x)
noncomputable def plainE : Expr → Bool
  | .Starred .. => false
  | _ => true
theorem starEach_plain {e : Expr} {rest : List Expr} {env : Env} (h : plainE e = true) : starEach (e :: rest) env = (false, eval e env) :: starEach rest env := by
  cases e <;> first | rfl | cases h
theorem wes_spliced {pos : Pos} : ∀ {es : List Expr} {Q : List V → Prop}, (es.all plainE = true) → WEs c f ρ es Q →
    ∀ (Z : Addr → Obj → Prop) (s : Shared) (E : Value → Shared → Prop) (Qs : List Value → Shared → Prop) (m : Str → Option Value) (ad : String → Addr), Rel c f Z ρ s.heap m ad →
    (∀ vs ws s', Q vs → Sx s s' → VRs s'.heap s.heap vs ws → Qs ws s') → wpAny c.M f.A (spliced (backTo pos (starEach es f.env))) Qs E s
  | [], _, _, h, _, s, _, _, _, _, _, k => wpAny_items_nil (k _ _ _ h ⟨Ext.refl _, rfl, rfl⟩ (.nil _))
  | e :: es, Q, hp, h, Z, s, E, Qs, m, ad, R, k => by
    simp only [List.all_cons, Bool.and_eq_true] at hp
    refine wpAny_items_cons (h Z s E _ m ad R fun v w s₁ hes x₁ v₁ => ?_) (starEach_plain hp.1)
    exact wes_spliced hp.2 hes Z s₁ E _ m ad (R.ext x₁.x) fun vs ws s₂ q x₂ v₂ => k (v :: vs) (w :: ws) s₂ q (x₁.trans x₂) (.cons (v₁.mono x₂.x) x₁.x v₂)
noncomputable def El : V → Bool
  | .none | .bool _ | .int _ | .str _ | .byt _ | .tup _ => true
  | _ => false
noncomputable def Pr : V → Bool
  | .none | .bool _ | .int _ | .str _ | .byt _ => true
  | _ => false
theorem VR.el {h₁ h : Heap} {v : V} {w : Value} (e : El v = true) (x : VR h₁ h v w) : ER h v w := by
  cases v <;> first | exact x | exact Bool.noConfusion (e : false = true)
theorem VR.pr {h₁ h : Heap} {v : V} {w : Value} (e : Pr v = true) (x : VR h₁ h v w) : PR v w := by
  cases v <;> first | exact x | exact Bool.noConfusion (e : false = true)
theorem VRs.els {h h₁ : Heap} {vs : List V} {ws : List Value} (e : vs.all El = true) (x : VRs h h₁ vs ws) : All2 (ER h) vs ws := by
  induction x with
  | nil => exact trivial
  | cons a _ _ ih =>
    rw [List.all_cons, Bool.and_eq_true] at e
    exact ⟨a.el e.1, ih e.2⟩
theorem VRs.prs {h h₁ : Heap} {vs : List V} {ws : List Value} (e : vs.all Pr = true) (x : VRs h h₁ vs ws) : All2 PR vs ws := by
  induction x with
  | nil => exact trivial
  | cons a _ _ ih =>
    rw [List.all_cons, Bool.and_eq_true] at e
    exact ⟨a.pr e.1, ih e.2⟩
theorem VRs.length {h h₁ : Heap} {vs : List V} {ws : List Value} (x : VRs h h₁ vs ws) : vs.length = ws.length := by
  induction x with
  | nil => rfl
  | cons _ _ _ ih => exact congrArg (· + 1) ih
theorem WE.list {es : List Expr} {pos : Pos} {Q : V → Prop} (h : WEs c f ρ es fun vs => vs.all El = true ∧ vs.length ≤ 1000 ∧ Q (.new vs)) (hp : es.all plainE = true := by rfl) : WE c f ρ (.List es pos) Q :=
  fun Z s E Qs m ad R k => wpAny_List (wes_spliced hp h Z s E _ m ad R fun vs ws s' hq x hv => by
    obtain ⟨e1, e2, q⟩ := hq
    refine ⟨by rw [← hv.length, sizeLine_eq]; omega, k _ _ _ q (x.trans ⟨Ext.push _ _, rfl, rfl⟩) ⟨_, ws.toArray, rfl, x.x.none (fresh_size _), ⟨0, Heap.get?_push_size _ rfl⟩, ?_⟩⟩
    simpa using (hv.mono (Ext.push _ _)).els e1)
theorem WE.tup {es : List Expr} {n : Nat} {pos : Pos} {Q : V → Prop} (h : WEs c f ρ es fun vs => vs.all Pr = true ∧ vs.length ≤ 1000 ∧ Q (.tup vs)) (hp : es.all plainE = true := by rfl) : WE c f ρ (.Tuple es n pos) Q :=
  fun Z s E Qs m ad R k => wpAny_Tuple (wes_spliced hp h Z s E _ m ad R fun vs ws s' hq x hv => by
    obtain ⟨e1, e2, q⟩ := hq
    refine ⟨by rw [← hv.length, sizeLine_eq]; omega, k _ _ _ q (x.trans ⟨Ext.push _ _, rfl, rfl⟩) ⟨_, ws.toArray, rfl, ⟨_, Heap.get?_push_size _ rfl, rfl, 0, rfl⟩, ?_⟩⟩
    simpa using hv.prs e1)
theorem WS.asg {x : String} {px pos : Pos} {value : Expr} {Q : Fl → Loc → Prop} (h : WE c f ρ value fun v => ∃ st, v.store = some st ∧ Q .next (upd ρ x st))
    (hk : NameOk f x)
    (hs : swapsWith value (some (.Name (Str.ofString x) px)) pos.line f.env = pure false := by rfl) : WS c f ρ (.Assign [.Name (Str.ofString x) px] value pos) Q :=
  fun Z s E Qs m ad R k => wpAny_Assign_Name (h Z s E _ m ad R fun v w s₁ hq x₁ hv => by
    obtain ⟨st, hst, q⟩ := hq
    exact store_rel R x₁.x hv hst hk fun s' m' ad' og R' => k _ _ _ _ _ _ q rfl (x₁.og.trans og) R') hs
theorem WS.aug {x : String} {px pos : Pos} {op : Operator} {value : Expr} {Q : Fl → Loc → Prop} {st₀ : S} (h₀ : ρ x = some st₀)
    (h : WE c f ρ value fun v => ∃ r st, Op2 c (inplaceOp op) st₀.get v r ∧ r.store = some st ∧ Q .next (upd ρ x st))
    (hk : NameOk f x) :
    WS c f ρ (.AugAssign (.Name (Str.ofString x) px) op value pos) Q :=
  fun Z s E Qs m ad R k => by
    obtain ⟨w₀, ha, hs₀⟩ := R.var x st₀ h₀
    refine wpAny_AugAssign_Name (loadName_at R.kind R.ns ha ?_)
    refine h Z s E _ m ad R fun v w s₁ hq x₁ hv => ?_
    obtain ⟨r, st, ho, hst, q⟩ := hq
    refine ho w₀ w s.heap s.heap f.A s₁ E _ R.room.zero (base_ext (R.ext x₁.x)) (hs₀.get.mono x₁.x) hv fun w' s₂ x₂ hr => ?_
    exact store_rel R (x₁.trans x₂).x (hr.since x₁.x) hst hk fun s' m' ad' og R' => k _ _ _ _ _ _ q rfl ((x₁.trans x₂).og.trans og) R'
end
section
open _root_.PySem _root_.PySem.W _root_.PySem.Calls _root_.PyProof.Rows
variable {c : Cx} {f : Fm} {ρ : Loc}
theorem mut_rel {Z : Addr → Obj → Prop} {h h' : Heap} {m : Str → Option Value} {ad : String → Addr} (R : Rel c f Z ρ h m ad) {x : String} {o o' : O} (hx : ρ x = some (.own o)) (hs' : Heap.SameBut (ad x) h h') (ho : OR h' (ad x) o') :
    Rel c f Z (upd ρ x (.own o')) h' m ad := by
  have hs : Heap.ExtBut (ad x) h h' := hs'.extBut
  obtain ⟨w, ha, hsr⟩ := R.var x _ hx
  obtain ⟨n1, n2, n3, n4⟩ := R.own x o hx
  have ht : ∀ a items, IsTup h a items → a ≠ ad x := fun a items t => not_own_tup hsr.2 t
  have hcell : ∀ a v, h.IsCell a v → a ≠ ad x := fun a v hc e => not_own_cell hc hsr.2 e.symm
  have iso : ∀ y o, upd ρ x (.own o') y = some (.own o) → ∃ o, ρ y = some (.own o) := fun y o e => by
    by_cases hy : y = x
    · subst hy; exact ⟨_, hx⟩
    · rw [upd_ne hy] at e; exact ⟨o, e⟩
  refine ⟨R.kind, R.room, R.base, R.entry, fun b o z => ?_, R.ns.sameBut hs' (Ne.symm n1), R.zL, R.zC, fun y hy => ?_, R.cinj, fun y st e => ?_, fun y o e => ?_, pin_put R fun _ _ e => nomatch e⟩
  · exact but_get hs (fun e => n2 o (e ▸ z)) (R.z b o z)
  · obtain ⟨a, v, e, hc⟩ := R.cell y hy
    exact ⟨a, v, e, cell_but hs (hcell a v hc) hc⟩
  · by_cases hy : y = x
    · subst hy
      have e := Option.some.inj (upd_self.symm.trans e)
      subst e
      exact ⟨w, ha.but hs fun a v _ hc => hcell a v hc, hsr.1, ho⟩
    · rw [upd_ne hy] at e
      obtain ⟨w', ha', hs'⟩ := R.var y st e
      refine ⟨w', ha'.but hs fun a v _ hc => hcell a v hc, hs'.but hs ht (fun b o e q => n2 o (q ▸ R.entry b o e)) (fun o e' => ?_) fun b l e' => ?_⟩
      · subst e'; exact n3 y o e hy
      · subst e'; exact n4 y b l e
  · obtain ⟨o₁, e₁⟩ := iso y o e
    obtain ⟨g1, g2, g3, g4⟩ := R.own y o₁ e₁
    refine ⟨g1, g2, fun z o2 ez hz => ?_, fun z b l ez => ?_⟩
    · obtain ⟨o3, e3⟩ := iso z o2 ez
      exact g3 z o3 e3 hz
    · by_cases hz : z = x
      · subst hz; cases upd_self.symm.trans ez
      · rw [upd_ne hz] at ez; exact g4 z b l ez
theorem WS.append {x : String} {px apos cpos pos : Pos} {e : Expr} {Q : Fl → Loc → Prop} {l : List V} (hx : ρ x = some (.own (.list l))) (hl : l.length ≤ 100000)
    (h : WE c f ρ e fun v => El v = true ∧ Q .next (upd ρ x (.own (.list (l ++ [v])))))
    (hp : plainE e = true := by rfl) (hline : (apos.endLine == cpos.line) = true := by rfl)
    (hsw : swapsWith (.Call (.Attribute (.Name (Str.ofString x) px) (Str.ofString "append") apos) [e] [] cpos) none pos.line f.env = pure false := by rfl) (hi : interactive f.env = false := by rfl)
    (hd : (Str.ofString x == ("__debug__" : Str)) = false := by decide +kernel) :
    WS c f ρ (.Expr (.Call (.Attribute (.Name (Str.ofString x) px) (Str.ofString "append") apos) [e] [] cpos) pos) Q :=
  fun Z s E Qs m ad R k => by
    obtain ⟨w, ha, hw, items, ⟨n, hpl⟩, hal⟩ := R.var x _ hx
    subst hw
    have hst : starEach [e] f.env = [(false, eval e f.env)] := starEach_plain hp
    have htr : backTo cpos (starEach [e] f.env) = [(false, eval e f.env)] := by rw [hst]; rfl
    refine wpAny_Expr_any (wpAny_Call_append (by rfl) (by rw [htr]; rfl) hline htr (wpAny_Name (loadName_at R.kind R.ns ha ?_) hd)) hi hsw
    refine ⟨_, items, rfl, ⟨_, n, hpl, rfl, rfl, rfl⟩, h Z s E _ m ad R fun v wv s₁ hq x₁ hv => ?_⟩
    refine wpAny_list_append_plain ⟨n, x₁.x _ _ hpl⟩ (fun h' hp' hs' => ?_) (by have := hal.length; rw [sizeLine_eq]; simp at this; omega)
    refine k _ _ _ _ _ _ hq.2 rfl ⟨x₁.os, x₁.gens⟩ (mut_rel (R.ext x₁.x) hx hs' ⟨_, hp', ?_⟩)
    have hv' := hv.el hq.1
    have ht : ∀ a items, IsTup s₁.heap a items → a ≠ ad x := fun a its t => not_own_tup (o := .list l) ⟨items, ⟨n, x₁.x _ _ hpl⟩, hal.mono fun _ _ => ER.mono x₁.x⟩ t
    rw [Array.toList_push]
    exact (hal.mono fun _ _ y => ER.but hs'.extBut ht (ER.mono x₁.x y)).append ⟨ER.but hs'.extBut ht hv', trivial⟩
/-- x[i] = v, of a dict -/
theorem dict_store {d : List (Int × V)} {m : Int → Option Value} {k : Int} {v : V} {w : Value} (h : DictIs d m) (hv : PR v w) : DictIs ((k, v) :: d) (fun x => if x = k then some w else m x) := fun x => by
  have := h x
  by_cases e : x = k
  · subst e; simp [List.lookup]; exact hv
  · have : (x == k) = false := by simpa using e
    simp only [List.lookup, this, if_neg e]
    exact h x
theorem WS.setitem_dict {x : String} {px spos pos : Pos} {i value : Expr} {Q : Fl → Loc → Prop} {d : List (Int × V)} (hx : ρ x = some (.own (.dict d))) (hl : d.length ≤ 100000)
    (h : WE c f ρ value fun v => WE c f ρ i fun vi => ∃ k, vi = .int k ∧ Pr v = true ∧ Q .next (upd ρ x (.own (.dict ((k, v) :: d)))))
    (hs : swapsWith value (some (.Subscript (.Name (Str.ofString x) px) i spos)) pos.line f.env = pure false := by rfl)
    (hd : (Str.ofString x == ("__debug__" : Str)) = false := by decide +kernel) :
    WS c f ρ (.Assign [.Subscript (.Name (Str.ofString x) px) i spos] value pos) Q :=
  fun Z s E Qs m ad R k => by
    obtain ⟨w, ha, hw, hdict⟩ := R.var x _ hx
    subst hw
    refine wpAny_Assign_Subscript (h Z s E _ m ad R fun v wv s₁ hv₁ x₁ r₁ => ?_) hs
    refine wpAny_Name (loadName_at R.kind (R.ext x₁.x).ns (ha.mono x₁.x) ?_) hd
    refine hv₁ Z s₁ E _ m ad (R.ext x₁.x) fun vi wi s₂ hq x₂ r₂ => ?_
    obtain ⟨kk, rfl, hpr, q⟩ := hq
    obtain ⟨t, rfl⟩ := r₂
    obtain ⟨mm, hm, hz, hD⟩ := IDict.mono (x₁.trans x₂).x hdict
    refine wpAny_setItem_intMap_le hm hz (by rw [sizeLine_eq]; omega) fun h' hm' hz' hs' => ?_
    exact k _ _ _ _ _ _ q rfl ⟨(x₁.trans x₂).os, (x₁.trans x₂).gens⟩ (mut_rel (R.ext (x₁.trans x₂).x) hx hs' ⟨_, hm', hz', dict_store hD (r₁.pr hpr)⟩)
end
section
open _root_.PySem _root_.PySem.W _root_.PySem.Calls _root_.PyProof.Rows
variable {c : Cx} {f : Fm} {ρ : Loc}
noncomputable def itemsOf : V → Option (List V)
  | .lst l => some l
  | .new l => some l
  | .tup l => if l.all Pr then some l else Option.none
  | .str s => some (s.map fun c => .str [c])
  | .byt s => some (s.map fun (c : Nat) => .int c)
  | .rng a st n => some ((List.range n).map fun (k : Nat) => .int (a + k * st))
  | _ => Option.none
/-- the classes of records that a loop meets here: none of them hands its own pair on -/
noncomputable def walker (n : String) : Bool := n ∈ ["list_iterator", "tuple_iterator", "str_iterator", "str_ascii_iterator", "bytes_iterator", "range_iterator", "range"]
structure It (c : Cx) (I : Addr) (src : Option Addr) (items : List V) (hs : Heap) (P : Nat → Value → Prop) (St : Nat → Heap → Prop) : Prop where
  walks : ∀ A : Around, A.handled = none → Walks c.prog c.w A I (I :: src.toList) [I] items.length P St
  item : ∀ i w, i < items.length → P i w → ∃ v, items[i]? = some v ∧ ER hs v w
  field : ∀ i h, St i h → ∃ o n xs, h.get? I = some o ∧ o.data = .fields xs ∧ o.cls = .type n ∧ walker n = true
  start : St 0 hs
  apart : ∀ a, src = some a → a ≠ I
theorem PR.er {h : Heap} {v : V} {w : Value} (x : PR v w) : ER h v w := by cases v <;> first | exact x | exact x.elim
theorem iter_of {A : Around} {s : Shared} {E : Value → Shared → Prop} {Q : Value → Shared → Prop} {h₁ : Heap} {v : V} {w : Value} {items : List V} (hv : VR h₁ s.heap v w) (hi : itemsOf v = some items)
    (h : ∀ I src P St h', Ext s.heap h' → s.heap.get? I = none → It c I src items h' P St → (∀ a, src = some a → w = .ref a) → Q (.ref I) { s with heap := h' }) : wpAny c.M A (pyIter w) Q E s := by
  have list : ∀ (a : Addr) (its : Array Value), s.heap.IsList a its → All2 (ER s.heap) items its.toList → w = .ref a → wpAny c.M A (pyIter w) Q E s := by
    intro a its hl al hw
    subst hw
    refine wpAny_pyIter_list hl (h _ (some a) (fun i v => its[i]? = some v) (fun i h => h.IsListIter s.heap.objs.size a i ∧ h.IsList a its) _ (Ext.push _ _) (fresh_size _) ⟨fun A hA => ?_, fun i w _ hp => ?_, fun i h st => ?_, ⟨⟨_, Heap.get?_push_size _ rfl, rfl, rfl⟩, hl.push _⟩, ?_⟩ fun a e => by cases e; rfl)
    · have := Walks.list (prog := c.prog) (w := c.w) hA s.heap.objs.size a (by obtain ⟨o, ho, _⟩ := hl; exact Nat.ne_of_lt (Heap.lt_size ho)) its
      have e : its.size = items.length := by rw [al.length]; simp
      rw [e] at this; exact this
    · obtain ⟨v, e, r⟩ := al.get' (i := i) (b := w) (by simpa using hp)
      exact ⟨v, e, ER.mono (Ext.push _ _) r⟩
    · obtain ⟨⟨o, ho, hc, hd⟩, _⟩ := st
      exact ⟨o, _, _, ho, hd, hc, by decide⟩
    · intro b e; cases e; obtain ⟨o, ho, _⟩ := hl; exact Nat.ne_of_lt (Heap.lt_size ho)
  cases v <;> try exact nomatch (show (Option.none : Option (List V)) = some items from hi)
  case lst l => cases (show some l = some items from hi); obtain ⟨a, its, e, hl, al⟩ := hv; exact list a its hl al e
  case new l => cases (show some l = some items from hi); obtain ⟨a, its, e, _, ⟨n, ho⟩, al⟩ := hv; exact list a its ⟨_, ho, rfl, n, rfl⟩ al e
  case tup l =>
    have hi : (if l.all Pr then some l else Option.none) = some items := hi
    split at hi
    rotate_left
    · cases hi
    have hi := Option.some.inj hi
    subst hi
    obtain ⟨a, its, rfl, ht, al⟩ := hv
    obtain ⟨o, ho, hc, n, hd⟩ := ht
    refine wpAny_pyIter_tuple (items := its) ⟨o, ho, hc, n, hd⟩ (h _ (some a) (fun i v => its[i]? = some v) (fun i h => h.IsTupleIter s.heap.objs.size a i ∧ h.IsTuple a its) _ (Ext.push _ _) (fresh_size _) ⟨fun A hA => ?_, fun i w _ hp => ?_, fun i h st => ?_, ⟨⟨_, Heap.get?_push_size _ rfl, rfl, rfl⟩, Heap.IsTuple.push ⟨o, ho, hc, n, hd⟩ _⟩, ?_⟩ fun a e => by cases e; rfl)
    · have := Walks.tuple (prog := c.prog) (w := c.w) hA s.heap.objs.size a (Nat.ne_of_lt (Heap.lt_size ho)) its
      have e : its.size = l.length := by rw [al.length]; simp
      rw [e] at this; exact this
    · obtain ⟨v, e, r⟩ := al.get' (i := i) (b := w) (by simpa using hp)
      exact ⟨v, e, r.er⟩
    · obtain ⟨⟨o, ho, hc, hd⟩, _⟩ := st
      exact ⟨o, _, _, ho, hd, hc, by decide⟩
    · intro b e; cases e; exact Nat.ne_of_lt (Heap.lt_size ho)
  case str x =>
    cases (show some _ = some items from hi)
    obtain ⟨t, rfl⟩ := hv
    have key : ∀ i w, SignAt ⟨x.toArray⟩ i w → ∃ v, (x.map fun c => V.str [c])[i]? = some v ∧ ∀ h, ER h v w := by
      rintro i w ⟨ch, u, e, rfl⟩
      exact ⟨.str [ch], by simp at e; simp [e], fun _ => ⟨u, rfl⟩⟩
    cases ha : (⟨x.toArray⟩ : Str).cps.all (· < 128)
    · refine wpAny_pyIter_wide ha (h _ Option.none (SignAt ⟨x.toArray⟩) (fun i h => h.IsStrIter s.heap.objs.size "str_iterator" ⟨x.toArray⟩ t i) _ (Ext.push _ _) (fresh_size _) ⟨fun A hA => ?_, fun i w _ hp => ?_, fun i h st => ?_, ⟨_, Heap.get?_push_size _ rfl, rfl, rfl⟩, nofun⟩ nofun)
      · have := Walks.strWide (prog := c.prog) (w := c.w) hA s.heap.objs.size ⟨x.toArray⟩ t
        simpa using this
      · obtain ⟨v, e, r⟩ := key i w hp; exact ⟨v, e, r _⟩
      · obtain ⟨o, ho, hc, hd⟩ := st
        exact ⟨o, _, _, ho, hd, hc, by decide⟩
    · refine wpAny_pyIter_ascii ha (h _ Option.none (SignAt ⟨x.toArray⟩) (fun i h => h.IsStrIter s.heap.objs.size "str_ascii_iterator" ⟨x.toArray⟩ t i) _ (Ext.push _ _) (fresh_size _) ⟨fun A hA => ?_, fun i w _ hp => ?_, fun i h st => ?_, ⟨_, Heap.get?_push_size _ rfl, rfl, rfl⟩, nofun⟩ nofun)
      · have := Walks.strAscii (prog := c.prog) (w := c.w) hA s.heap.objs.size ⟨x.toArray⟩ t
        simpa using this
      · obtain ⟨v, e, r⟩ := key i w hp; exact ⟨v, e, r _⟩
      · obtain ⟨o, ho, hc, hd⟩ := st
        exact ⟨o, _, _, ho, hd, hc, by decide⟩
  case byt x =>
    cases (show some _ = some items from hi)
    obtain ⟨b, t, rfl, hb⟩ := hv
    refine KBw.pyIter_bytes (h _ Option.none (fun i v => ∃ c u, b[i]? = some c ∧ v = .int (c.toNat : Int) u) (fun i h => KBw.IsBytesIter h s.heap.objs.size b t i) _ (Ext.push _ _) (fresh_size _) ⟨fun A hA => ?_, fun i w _ hp => ?_, fun i h st => ?_, ⟨_, Heap.get?_push_size _ rfl, rfl, rfl⟩, nofun⟩ nofun)
    · have := KBw.walks (prog := c.prog) (w := c.w) hA s.heap.objs.size b t
      have e : b.size = (x.map fun (c : Nat) => V.int c).length := by rw [List.length_map, ← hb]; simp
      rw [e] at this; exact this
    · obtain ⟨ch, u, e, rfl⟩ := hp
      refine ⟨.int ch.toNat, ?_, u, rfl⟩
      have e' : b.toList[i]? = some ch := by simpa using e
      rw [← hb]; simp [e']
    · obtain ⟨o, ho, hc, hd⟩ := st
      exact ⟨o, _, _, ho, hd, hc, by decide⟩
  case rng x sp n =>
    cases (show some _ = some items from hi)
    obtain ⟨a, rfl, b, t, u, v, hr, hsm, hn⟩ := hv
    refine wpAny_pyIter_range hr hsm (h _ Option.none (fun i v => ∃ t, v = .int (x + i * sp) t) (fun i h => IsRangeIter h s.heap.objs.size (x + (i : Nat) * sp) ((n : Int) - (i : Nat)) sp) _ (Ext.push _ _) (fresh_size _) ⟨fun A hA => ?_, fun i w _ hp => ?_, fun i h st => ?_, ?_, nofun⟩ nofun)
    · have := Walks.range (prog := c.prog) (w := c.w) hA s.heap.objs.size x sp n
      simpa using this
    · rename_i hlt
      obtain ⟨t, rfl⟩ := hp
      simp only [List.length_map, List.length_range] at hlt
      exact ⟨.int (x + i * sp), by simp [List.getElem?_range hlt], t, by simp⟩
    · exact ⟨_, _, _, st, rfl, rfl, by decide⟩
    · show IsRangeIter _ _ _ _ _
      rw [hn]
      simpa using Heap.get?_push_size _ rfl
theorem iter_src {h₁ : Heap} {s₁ : Shared} {v : V} {w : Value} {items : List V} (hv : VR h₁ s₁.heap v w) (hi : itemsOf v = some items) {h' : Heap} (x₂ : Ext s₁.heap h') {a : Addr} (e : w = .ref a) : ∃ o, h'.get? a = some o := by
  cases v <;> try exact nomatch (show (Option.none : Option (List V)) = some items from hi)
  case lst l => obtain ⟨a', its, e', ⟨o, ho, _⟩, _⟩ := hv; rw [e] at e'; cases e'; exact ⟨o, x₂ _ _ ho⟩
  case new l => obtain ⟨a', its, e', _, ⟨n, ho⟩, _⟩ := hv; rw [e] at e'; cases e'; exact ⟨_, x₂ _ _ ho⟩
  case tup l => obtain ⟨a', its, e', ⟨o, ho, _⟩, _⟩ := hv; rw [e] at e'; cases e'; exact ⟨o, x₂ _ _ ho⟩
  case str => obtain ⟨t, hw⟩ := hv; rw [hw] at e; cases e
  case byt => obtain ⟨b, t, hw, _⟩ := hv; rw [hw] at e; cases e
  case rng => obtain ⟨a', e', b, t, u, v, hr, _⟩ := hv; rw [e] at e'; cases e'; exact ⟨_, x₂ _ _ hr⟩
end
section
open _root_.PySem _root_.PySem.W _root_.PySem.Calls _root_.PyProof.Rows
variable {c : Cx} {f : Fm} {ρ : Loc}
noncomputable def Fields (h : Heap) (I : Addr) : Prop := ∃ o n xs, h.get? I = some o ∧ o.data = .fields xs ∧ o.cls = .type n ∧ walker n = true
theorem letGo_ok {M : Model} {A : Around} {E : Value → Shared → Prop} {s : Shared} {target : Expr} {I : Addr} {v : Value} {Q : Unit → Shared → Prop} (hI : Fields s.heap I) (h : Q () s) : wpAny M A (letOwnedTupleGo target (.ref I) v) Q E s := by
  obtain ⟨o, n, xs, ho, hd, hc, hn⟩ := hI
  simp only [walker, decide_eq_true_eq, List.mem_cons, List.not_mem_nil, or_false] at hn
  unfold letOwnedTupleGo
  cases target <;> first | exact wpAny_pure h | skip
  all_goals
    cases v <;> first | exact wpAny_pure h | skip
    refine wpAny_bind (wpAny_load ho ?_)
    rw [hc, hd]
    rcases hn with rfl | rfl | rfl | rfl | rfl | rfl | rfl <;> (simp; exact wpAny_pure h)
/-- a target takes a value -/
noncomputable def AsgOk (c : Cx) (f : Fm) (t : Expr) (v : V) (ρ ρ' : Loc) : Prop :=
  ∀ (Z : Addr → Obj → Prop) (h₁ : Heap) (s : Shared) (w : Value) (E : Value → Shared → Prop) (Qs : Unit → Shared → Prop) (m : Str → Option Value) (ad : String → Addr), Rel c f Z ρ h₁ m ad → Ext h₁ s.heap → VR h₁ s.heap v w →
    (∀ s' m' ad', Og s s' → Rel c f Z ρ' s'.heap m' ad' → Qs () s') → wpAny c.M f.A (assign t f.env w) Qs E s
theorem AsgOk.name {x : String} {px : Pos} {v : V} {st : S} (hst : v.store = some st) (hk : NameOk f x) : AsgOk c f (.Name (Str.ofString x) px) v ρ (upd ρ x st) :=
  fun _ _ _ _ _ _ _ _ R x₁ hv k => wpAny_assign_Name (store_rel R x₁ hv hst hk k)
theorem Rel.weak {Z Z' : Addr → Obj → Prop} {h : Heap} {m ad} (R : Rel c f Z' ρ h m ad) (hz : ∀ b o, Z b o → Z' b o) (he : ∀ b o, f.he.get? b = some o → Z b o) : Rel c f Z ρ h m ad :=
  ⟨R.kind, R.room, R.base, he, fun b o z => R.z b o (hz b o z), R.ns, fun o z => R.zL o (hz _ _ z), fun x a h1 h2 o z => R.zC x a h1 h2 o (hz _ _ z), R.cell, R.cinj, R.var,
    fun x o e => let ⟨g1, g2, g3, g4⟩ := R.own x o e; ⟨g1, fun o z => g2 o (hz _ _ z), g3, g4⟩, R.pin⟩
/-- all that stands and that the frame does not turn -/
noncomputable def Rest (f : Fm) (ρ : Loc) (h : Heap) (ad : String → Addr) (I : Addr) : Addr → Obj → Prop :=
  fun b o => h.get? b = some o ∧ b ≠ I ∧ b ≠ f.L ∧ (∀ y o', ρ y = some (.own o') → ad y ≠ b) ∧ ∀ y, f.sc.names.lookup y = some .cell → ∀ a, f.cells.lookup y = some a → a ≠ b
theorem Fields.ns {h : Heap} {I L : Addr} {m : Str → Option Value} (x : Fields h I) (n : h.Ns L m) : L ≠ I := by
  rintro rfl
  obtain ⟨o, _, xs, ho, hd, _⟩ := x
  obtain ⟨o', es, ep, ho', hd', _⟩ := n
  rw [ho] at ho'; cases ho'; rw [hd] at hd'; cases hd'
theorem Fields.cell {h : Heap} {I a : Addr} {v : Option Value} (x : Fields h I) (n : h.IsCell a v) : a ≠ I := by
  rintro rfl
  obtain ⟨o, _, xs, ho, hd, _⟩ := x
  obtain ⟨o', ho', hd'⟩ := n
  rw [ho] at ho'; cases ho'; rw [hd] at hd'; cases hd'
theorem Fields.tup {h : Heap} {I a : Addr} {items : Array Value} (x : Fields h I) (n : IsTup h a items) : a ≠ I := by
  rintro rfl
  obtain ⟨o, _, xs, ho, hd, _⟩ := x
  obtain ⟨o', ho', _, _, hd'⟩ := n
  rw [ho] at ho'; cases ho'; rw [hd] at hd'; cases hd'
theorem Fields.lst {h₁ h : Heap} {I b : Addr} {l : List V} (x : Fields h I) (n : VR h₁ h (.lst l) (.ref b)) : b ≠ I := by
  rintro rfl
  obtain ⟨o, _, xs, ho, hd, _⟩ := x
  obtain ⟨a, its, e, ⟨o', ho', _, _, hd'⟩, _⟩ := n
  cases e
  rw [ho] at ho'; cases ho'; rw [hd] at hd'; cases hd'
theorem Fields.own {h : Heap} {I a : Addr} {o : O} (x : Fields h I) (t : OR h a o) : a ≠ I := by
  rintro rfl
  obtain ⟨o', _, xs, ho, hd, _⟩ := x
  cases o with
  | list l => obtain ⟨items, ⟨n, hp⟩, _⟩ := t; rw [ho] at hp; cases hp; cases hd
  | dict d => obtain ⟨m, ⟨o2, es, ep, h2, _, hd2, _⟩, _⟩ := t; rw [ho] at h2; cases h2; rw [hd] at hd2; cases hd2
  | bar b => obtain ⟨bs, hp, _⟩ := t; rw [ho] at hp; cases hp; cases hd
/-- the walk's own object turns -/
theorem Rel.turn {Z : Addr → Obj → Prop} {h h' : Heap} {m ad} (R : Rel c f Z ρ h m ad) {I : Addr} (hs : Heap.ExtBut I h h') (hI : Fields h I) (hz : ∀ o, ¬ Z I o) : Rel c f Z ρ h' m ad where
  kind := R.kind
  room := R.room
  base := R.base
  entry := R.entry
  z := fun b o z => but_get hs (fun e => hz o (e ▸ z)) (R.z b o z)
  ns := R.ns.at' fun o e => but_get hs (hI.ns R.ns) e
  zL := R.zL
  zC := R.zC
  cell := fun y hy => let ⟨a, v, e, hc⟩ := R.cell y hy; ⟨a, v, e, cell_but hs (hI.cell hc) hc⟩
  cinj := R.cinj
  own := R.own
  pin := R.pin
  var := fun y s e => by
    obtain ⟨w, ha, hsr⟩ := R.var y s e
    refine ⟨w, ha.but hs fun a v _ hc => hI.cell hc, hsr.but hs (fun a its t => hI.tup t) (fun b o e q => hz o (q ▸ R.entry b o e)) (fun o e => ?_) fun b l e => ?_⟩
    · subst e; exact hI.own hsr.2
    · subst e; exact hI.own hsr.2
theorem Rel.plus {Z : Addr → Obj → Prop} {h : Heap} {m ad} (R : Rel c f Z ρ h m ad) {I : Addr} {o₁ : Obj} (ho : h.get? I = some o₁) (hI : Fields h I) : Rel c f (fun b o => Z b o ∨ (b = I ∧ o = o₁)) ρ h m ad where
  kind := R.kind
  room := R.room
  base := R.base
  entry := fun b o e => .inl (R.entry b o e)
  z := fun b o z => z.elim (R.z b o) fun ⟨e1, e2⟩ => by subst e1 e2; exact ho
  ns := R.ns
  zL := fun o z => z.elim (R.zL o) fun ⟨e, _⟩ => hI.ns R.ns e
  zC := fun x a h1 h2 o z => z.elim (R.zC x a h1 h2 o) fun ⟨e, _⟩ => by
    obtain ⟨a', v, h3, hc⟩ := R.cell x h1
    rw [h2] at h3; cases h3
    exact hI.cell hc e
  cell := R.cell
  cinj := R.cinj
  own := fun x o e => by
    obtain ⟨g1, g2, g3, g4⟩ := R.own x o e
    refine ⟨g1, fun o z => z.elim (g2 o) fun ⟨q, _⟩ => ?_, g3, g4⟩
    obtain ⟨w, _, hsr⟩ := R.var x _ e
    exact hI.own hsr.2 q
  var := R.var
  pin := R.pin
theorem Rel.rest {Z : Addr → Obj → Prop} {h : Heap} {m ad} (R : Rel c f Z ρ h m ad) {I : Addr} (hz : ∀ o, ¬ Z I o) : Rel c f (Rest f ρ h ad I) ρ h m ad ∧ ∀ b o, Z b o → Rest f ρ h ad I b o := by
  have sub : ∀ b o, Z b o → Rest f ρ h ad I b o := fun b o z => ⟨R.z b o z, fun e => hz o (e ▸ z), fun e => R.zL o (e ▸ z), fun y o' e q => (R.own y o' e).2.1 o (q ▸ z), fun y h1 a h2 q => R.zC y a h1 h2 o (q ▸ z)⟩
  exact ⟨⟨R.kind, R.room, R.base, fun b o e => sub b o (R.entry b o e), fun b o z => z.1, R.ns, fun o z => z.2.2.1 rfl, fun x a h1 h2 o z => z.2.2.2.2 x h1 a h2 rfl, R.cell, R.cinj, R.var,
    fun x o e => let ⟨g1, _, g3, g4⟩ := R.own x o e; ⟨g1, fun o' z => z.2.2.2.1 x o e rfl, g3, g4⟩, R.pin⟩, sub⟩
noncomputable abbrev ownQ (x : String) (a : Addr) (l : List V) (Q : Fl → Loc → Prop) (fl : Fl) (ρ' : Loc) : Prop := ρ' x = some (.at a l) ∧ Q fl (upd ρ' x (.own (.list l)))
/-- what a loop must show -/
noncomputable def LoopOk (c : Cx) (f : Fm) (target : Expr) (body orelse : List Stmt) (items : List V) (ρ : Loc) (Q : Fl → Loc → Prop) : Prop :=
  ∃ Inv : Nat → Loc → Prop, Inv 0 ρ ∧
    (∀ i v ρ₁, items[i]? = some v → Inv i ρ₁ → ∃ ρ₂, AsgOk c f target v ρ₁ ρ₂ ∧ WB c f ρ₂ body (loopQ (Inv (i + 1)) Q)) ∧
    ∀ ρ₁, Inv items.length ρ₁ → WB c f ρ₁ orelse Q
theorem for_loop {target : Expr} {body orelse : List Stmt} {items : List V} {Q : Fl → Loc → Prop} (L : LoopOk c f target body orelse items ρ Q) {Z : Addr → Obj → Prop} {s : Shared} {m ad} (R : Rel c f Z ρ s.heap m ad)
    {I : Addr} {src : Option Addr} {P : Nat → Value → Prop} {St : Nat → Heap → Prop} (W : It c I src items s.heap P St) (hz : ∀ o, ¬ Z I o)
    (hsrc : ∀ a, src = some a → ∃ o, Rest f ρ s.heap ad I a o) {E : Value → Shared → Prop} {Qs : Flow → Shared → Prop}
    (k : ∀ fl ρ' g s' m' ad', Q fl ρ' → FR f.he s'.heap fl g → Og s s' → Rel c f Z ρ' s'.heap m' ad' → Qs g s') :
    codeAny c.M f.A (.forLoop target (.ref I) body orelse f.env) (fun r s' => match r with | .ok g => Qs g s' | .error e => cameBackBy c.M f.A f.env E e s') s := by
  obtain ⟨Inv, h0, hturn, hend⟩ := L
  obtain ⟨R', sub⟩ := R.rest hz
  have WW := W.walks f.A R.room.handled
  have entry : ∀ b o, f.he.get? b = some o → Z b o := R.entry
  refine codeAny_forLoop_any (fun n s' => ∃ i ρ₁ m₁ ad₁, n = items.length - i ∧ i ≤ items.length ∧ Inv i ρ₁ ∧ Rel c f (Rest f ρ s.heap ad I) ρ₁ s'.heap m₁ ad₁ ∧ Og s s' ∧ St i s'.heap) ?_ items.length ⟨0, ρ, m, ad, rfl, Nat.zero_le _, h0, R', .refl _, W.start⟩
  rintro n s₁ ⟨i, ρ₁, m₁, ad₁, rfl, hi, hinv, R₁, og₁, st⟩
  have hI := W.field _ _ st
  have hrI : ∀ o, ¬ Rest f ρ s.heap ad I I o := fun o z => z.2.1 rfl
  by_cases hlt : i < items.length
  · refine WW.item i s₁ _ _ hlt st fun v h' tk hp st' hk => ?_
    have hs : Heap.ExtBut I s₁.heap h' := fun b o hb e => hk b o (by simpa using hb) e
    have R₂ := R₁.turn hs hI hrI
    have hI' := W.field _ _ st'
    obtain ⟨vv, hvi, hev⟩ := W.item i v hlt hp
    obtain ⟨ρ₂, ha, hb⟩ := hturn i vv ρ₁ hvi hinv
    obtain ⟨oI, hoI⟩ : ∃ o, h'.get? I = some o := by obtain ⟨o, _, _, ho, _⟩ := hI'; exact ⟨o, ho⟩
    have R₃ := R₂.plus hoI hI'
    refine letGo_ok hI' ?_
    -- the item at this turn
    have hvr : VR h' h' vv v := by
      have : ER h' vv v := by
        cases vv <;> first | exact hev | skip
        obtain ⟨a, its, e, ⟨o, ho, r⟩, q⟩ := hev
        refine ⟨a, its, e, ⟨o, R₂.z a o ⟨ho, ?_, ?_, ?_, ?_⟩, r⟩, q⟩
        · exact Fields.tup (W.field _ _ W.start) ⟨o, ho, r⟩
        · exact not_tup_ns R.ns ⟨o, ho, r⟩
        · intro y o' e'
          obtain ⟨_, _, hsr⟩ := R.var y _ e'
          exact Ne.symm (not_own_tup hsr.2 ⟨o, ho, r⟩)
        · intro y h1 a' h2
          obtain ⟨a2, v2, h3, hc⟩ := R.cell y h1
          rw [h2] at h3; cases h3
          exact Ne.symm (not_tup_cell hc ⟨o, ho, r⟩)
      cases vv <;> first | exact this | exact this.elim
    refine ha _ h' { s₁ with heap := h', toks := tk } v _ _ _ _ R₃ (Ext.refl _) hvr fun s₂ m₂ ad₂ og₂ R₄ => ?_
    refine hb _ s₂ _ _ _ _ R₄ fun fl ρ₃ g s₃ m₃ ad₃ hq hg og₃ R₅ => ?_
    have og₄ : Og s s₃ := ⟨(og₂.trans og₃).os.trans og₁.os, (og₂.trans og₃).gens.trans og₁.gens⟩
    have R₆ : Rel c f (Rest f ρ s.heap ad I) ρ₃ s₃.heap m₃ ad₃ := R₅.weak (fun b o z => .inl z) fun b o e => sub b o (entry b o e)
    have st'' : St (i + 1) s₃.heap := WW.frame _ _ _ st' fun b hb o e => by
      rcases List.mem_cons.mp hb with rfl | hb
      · rw [hoI] at e; cases e
        exact R₅.z _ _ (.inr ⟨rfl, rfl⟩)
      · have hb : src = some b := by simpa using hb
        obtain ⟨o₁, hr⟩ := hsrc b hb
        have e1 := R₂.z _ _ hr
        rw [e1] at e; cases e
        exact R₅.z _ _ (.inl hr)
    cases fl with
    | next => cases hg; exact ⟨items.length - (i + 1), by omega, i + 1, ρ₃, m₃, ad₃, rfl, hlt, hq, R₆, og₄, st''⟩
    | cont => cases hg; exact ⟨items.length - (i + 1), by omega, i + 1, ρ₃, m₃, ad₃, rfl, hlt, hq, R₆, og₄, st''⟩
    | brk => cases hg; exact k .next ρ₃ _ s₃ m₃ ad₃ hq rfl og₄ (R₆.weak sub entry)
    | ret v => obtain ⟨w, rfl, hw⟩ := hg; exact k (.ret v) ρ₃ _ s₃ m₃ ad₃ hq ⟨w, rfl, hw⟩ og₄ (R₆.weak sub entry)
  · have hi' : i = items.length := by omega
    subst hi'
    refine WW.done s₁ _ _ st fun h' tk hk => ?_
    have hs : Heap.ExtBut I s₁.heap h' := fun b o hb e => hk b o (by simpa using hb) e
    exact hend ρ₁ hinv _ { s₁ with heap := h', toks := tk } _ _ _ _ (R₁.turn hs hI hrI) fun fl ρ' g s' m' ad' hq hg og R₂ => k fl ρ' g s' m' ad' hq hg ⟨og.os.trans og₁.os, og.gens.trans og₁.gens⟩ (R₂.weak sub entry)
noncomputable def notLst : V → Bool
  | .lst _ => false
  | _ => true
theorem WS.for_ {target iter : Expr} {body orelse : List Stmt} {pos : Pos} {Q : Fl → Loc → Prop} (h : WE c f ρ iter fun v => notLst v = true ∧ ∃ items, itemsOf v = some items ∧ LoopOk c f target body orelse items ρ Q)
    (hs : ∀ x, foldedSetIterable iter f.env x = pure x := by intro _; rfl) : WS c f ρ (.For target iter body orelse pos) Q :=
  fun Z s E Qs m ad R k => wpAny_For (h Z s E _ m ad R fun v w s₁ hq x₁ hv => by
    obtain ⟨hn, items, hi, hL⟩ := hq
    refine iter_of hv hi fun I src P St h' x₂ hfr W hsrc => ?_
    have R₂ := R.ext (x₁.x.trans x₂)
    refine for_loop (s := { s₁ with heap := h' }) hL R₂ W (fun o z => ?_) (fun a ha => ?_) (fun fl ρ' g s' m' ad' hq hg og R' => k fl ρ' g s' m' ad' hq hg ⟨og.os.trans x₁.os, og.gens.trans x₁.gens⟩ R')
    · have := (R.ext x₁.x).z I o z; rw [hfr] at this; cases this
    · have e := hsrc a ha
      have hne := W.apart a ha
      cases v <;> first | exact nomatch (show false = true from hn) | exact nomatch (show (Option.none : Option (List V)) = some items from hi) | skip
      case new l =>
        obtain ⟨a', its, e', hf, ⟨n, hp⟩, _⟩ := hv
        rw [e] at e'; cases e'
        refine ⟨_, x₂ _ _ hp, hne, ?_, fun y o' ey q => ?_, fun y h1 b h2 q => ?_⟩
        · rintro rfl; obtain ⟨o, _, _, ho, _⟩ := R.ns; rw [hf] at ho; cases ho
        · obtain ⟨_, _, hsr⟩ := R.var y _ ey
          obtain ⟨o, ho⟩ := hsr.2.some
          rw [q, hf] at ho; cases ho
        · obtain ⟨b', v', h3, o, ho, _⟩ := R.cell y h1
          rw [h2] at h3; cases h3
          rw [q, hf] at ho; cases ho
      case tup l =>
        obtain ⟨a', its, e', ht, _⟩ := hv
        rw [e] at e'; cases e'
        have ht' : IsTup h' a its := ht.keeps x₂
        obtain ⟨o, ho, _⟩ := id ht'
        refine ⟨o, ho, hne, not_tup_ns R₂.ns ht', fun y o' ey => ?_, fun y h1 b h2 => ?_⟩
        · obtain ⟨_, _, hsr⟩ := R₂.var y _ ey
          exact Ne.symm (not_own_tup hsr.2 ht')
        · obtain ⟨b', v', h3, hc⟩ := R₂.cell y h1
          rw [h2] at h3; cases h3
          exact Ne.symm (not_tup_cell hc ht')
      case str => obtain ⟨t, hw⟩ := hv; rw [hw] at e; cases e
      case byt => obtain ⟨b, t, hw, _⟩ := hv; rw [hw] at e; cases e
      case rng x sp n =>
        obtain ⟨a', e', b, t, u, v, hr, _⟩ := hv
        rw [e] at e'; cases e'
        refine ⟨_, x₂ _ _ hr, hne, ?_, fun y o' ey q => ?_, fun y h1 b h2 q => ?_⟩
        · rintro rfl
          obtain ⟨o, _, _, ho, hd, _⟩ := R₂.ns
          have := x₂ _ _ hr
          rw [this] at ho; cases ho; cases hd
        · obtain ⟨_, _, hsr⟩ := R₂.var y _ ey
          have := x₂ _ _ hr
          have F : Fields h' a := ⟨_, _, _, this, rfl, rfl, by decide⟩
          exact F.own hsr.2 q
        · obtain ⟨b', v', h3, hc⟩ := R₂.cell y h1
          rw [h2] at h3; cases h3
          have := x₂ _ _ hr
          have F : Fields h' a := ⟨_, _, _, this, rfl, rfl, by decide⟩
          exact F.cell hc q) hs
/-- over a list that was handed in -/
theorem WS.for_arg {target : Expr} {x : String} {px : Pos} {body orelse : List Stmt} {pos : Pos} {Q : Fl → Loc → Prop} {l : List V} (hx : ρ x = some (.val (.lst l))) (hL : LoopOk c f target body orelse l ρ Q)
    (hd : (Str.ofString x == ("__debug__" : Str)) = false := by decide +kernel) : WS c f ρ (.For target (.Name (Str.ofString x) px) body orelse pos) Q :=
  fun Z s E Qs m ad R k => by
    obtain ⟨w, ha, ⟨b, o, rfl, hb⟩, hv⟩ := R.var x _ hx
    refine wpAny_For (wpAny_Name (loadName_at R.kind R.ns ha ?_) hd)
    refine iter_of hv rfl fun I src P St h' x₂ hfr W hsrc => ?_
    refine for_loop (s := { s with heap := h' }) hL (R.ext x₂) W (fun o z => ?_) (fun a ha => ?_) (fun fl ρ' g s' m' ad' hq hg og R' => k fl ρ' g s' m' ad' hq hg ⟨og.os, og.gens⟩ R')
    · have := R.z I o z; rw [hfr] at this; cases this
    · have e := hsrc a ha
      cases e
      have hI : ∀ o, ¬ Z I o := fun o z => by have := R.z I o z; rw [hfr] at this; cases this
      exact ⟨o, ((R.ext x₂).rest hI).2 _ _ (R.entry _ _ hb)⟩
/-- over a list of the frame's own -/
theorem WS.for_own {target : Expr} {x : String} {px : Pos} {body orelse : List Stmt} {pos : Pos} {Q : Fl → Loc → Prop} {l : List V} (hx : ρ x = some (.own (.list l)))
    (hL : ∀ a, LoopOk c f target body orelse l (upd ρ x (.at a l)) (ownQ x a l Q))
    (hd : (Str.ofString x == ("__debug__" : Str)) = false := by decide +kernel) : WS c f ρ (.For target (.Name (Str.ofString x) px) body orelse pos) Q :=
  fun Z s E Qs m ad R k => by
    obtain ⟨w, ha, rfl, hv⟩ := R.var x _ hx
    obtain ⟨n1, n2, n3, n4⟩ := R.own x _ hx
    have ρown : ∀ y o, upd ρ x (.at (ad x) l) y = some (.own o) → y ≠ x ∧ ρ y = some (.own o) := fun y o e => by
      by_cases hy : y = x
      · subst hy; cases upd_self.symm.trans e
      · rw [upd_ne hy] at e; exact ⟨hy, e⟩
    have R₁ : Rel c f Z (upd ρ x (.at (ad x) l)) s.heap m ad := by
      refine ⟨R.kind, R.room, R.base, R.entry, R.z, R.ns, R.zL, R.zC, R.cell, R.cinj, fun y st e => ?_, fun y o e => ?_, fun y z b l1 l2 e1 e2 => ?_⟩
      · by_cases hy : y = x
        · subst hy; cases Option.some.inj (upd_self.symm.trans e); exact ⟨_, ha, rfl, hv⟩
        · rw [upd_ne hy] at e; exact R.var y st e
      · obtain ⟨hy, e'⟩ := ρown y o e
        obtain ⟨g1, g2, g3, g4⟩ := R.own y o e'
        refine ⟨g1, g2, fun z o' ez hz => g3 z o' (ρown z o' ez).2 hz, fun z b l' ez => ?_⟩
        by_cases hz : z = x
        · subst hz; cases Option.some.inj (upd_self.symm.trans ez); exact fun q => n3 y o e' hy q.symm
        · rw [upd_ne hz] at ez; exact g4 z b l' ez
      · by_cases hy : y = x
        · by_cases hz : z = x
          · rw [hy, hz]
          · rw [upd_ne hz] at e2; subst hy; cases Option.some.inj (upd_self.symm.trans e1); exact absurd rfl (n4 z _ _ e2)
        · rw [upd_ne hy] at e1
          by_cases hz : z = x
          · subst hz; cases Option.some.inj (upd_self.symm.trans e2); exact absurd rfl (n4 y _ _ e1)
          · rw [upd_ne hz] at e2; exact R.pin y z b l1 l2 e1 e2
    refine wpAny_For (wpAny_Name (loadName_at R.kind R.ns ha ?_) hd)
    refine iter_of (h₁ := s.heap) (v := .lst l) (by obtain ⟨items, ⟨n, hp⟩, q⟩ := hv; exact ⟨_, items, rfl, ⟨_, hp, rfl, n, rfl⟩, q⟩) rfl fun I src P St h' x₂ hfr W hsrc => ?_
    have hI : ∀ o, ¬ Z I o := fun o z => by have := R.z I o z; rw [hfr] at this; cases this
    have hvI : OR h' (ad x) (.list l) := hv.mono x₂
    refine for_loop (s := { s with heap := h' }) (hL (ad x)) (R₁.ext x₂) W hI (fun a ha => ?_) fun fl ρ' g s' m' ad' hq hg og R₂ => ?_
    · have e := hsrc a ha
      cases e
      obtain ⟨o, ho⟩ := hvI.some
      refine ⟨o, ho, W.apart _ ha, n1, fun y o' ey => ?_, fun y h1 b h2 => ?_⟩
      · obtain ⟨hy, e'⟩ := ρown y o' ey
        exact n3 y o' e' hy
      · obtain ⟨b', v', h3, hc⟩ := (R₁.ext x₂).cell y h1
        rw [h2] at h3; cases h3
        exact Ne.symm (not_own_cell hc hvI)
    · obtain ⟨hx', hQ⟩ := hq
      obtain ⟨w', ha', hw', hv'⟩ := R₂.var x _ hx'
      refine k fl _ g s' m' (adOf ad' x (ad x)) hQ hg ⟨og.os, og.gens⟩ ?_
      have fa : Apart f Z ρ' ad' x (ad x) := by
        refine ⟨n1, n2, fun y o e _ q => (R₂.own y o e).2.2.2 x _ _ hx' q.symm, ?_⟩
        intro y b l' e hy q
        subst q
        exact hy (R₂.pin y x _ _ _ e hx')
      refine ⟨R₂.kind, R₂.room, R₂.base, R₂.entry, R₂.z, R₂.ns, R₂.zL, R₂.zC, R₂.cell, R₂.cinj, fun y st e => ?_, own_put R₂ (fun _ _ => fa) (fun _ _ e => nomatch e), pin_put R₂ (fun _ _ e => nomatch e)⟩
      by_cases hy : y = x
      · subst hy; cases Option.some.inj (upd_self.symm.trans e)
        rw [adOf_self]
        exact ⟨w', ha', hw', hv'⟩
      · rw [upd_ne hy] at e
        rw [adOf_ne hy]
        exact R₂.var y st e
end
section
open _root_.PySem _root_.PySem.W _root_.PySem.Calls _root_.PyProof.Rows
variable {c : Cx} {f : Fm} {ρ : Loc}
theorem WS.while_ {test : Expr} {body orelse : List Stmt} {pos : Pos} {Q : Fl → Loc → Prop} (Inv : Nat → Loc → Prop) (n : Nat) (h0 : Inv n ρ)
    (h : ∀ n ρ₁, Inv n ρ₁ → WT c f ρ₁ test fun b => if b = true then WB c f ρ₁ body (loopQ (lessI Inv n) Q) else WB c f ρ₁ orelse Q) : WS c f ρ (.While test body orelse pos) Q :=
  fun Z s E Qs m ad R k => by
    refine wpAny_While (codeAny_whileLoop (fun n s' => ∃ ρ₁ m₁ ad₁, Inv n ρ₁ ∧ Og s s' ∧ Rel c f Z ρ₁ s'.heap m₁ ad₁) ?_ n ⟨ρ, m, ad, h0, .refl _, R⟩)
    rintro n s₁ ⟨ρ₁, m₁, ad₁, hi, og₁, R₁⟩
    refine h n ρ₁ hi Z s₁ _ _ m₁ ad₁ R₁ fun b s₂ hb x => ?_
    cases b with
    | false =>
      rw [if_neg Bool.false_ne_true] at hb ⊢
      exact hb Z s₂ _ _ m₁ ad₁ (R₁.ext x.x) fun fl ρ' g s' m' ad' hq hg og R' => k fl ρ' g s' m' ad' hq hg (og₁.trans (x.og.trans og)) R'
    | true =>
      rw [if_pos rfl] at hb ⊢
      refine hb Z s₂ _ _ m₁ ad₁ (R₁.ext x.x) fun fl ρ' g s' m' ad' hq hg og R' => ?_
      have og := og₁.trans (x.og.trans og)
      cases fl with
      | next => cases hg; obtain ⟨m, hm, hi⟩ := hq; exact ⟨m, hm, ρ', m', ad', hi, og, R'⟩
      | cont => cases hg; obtain ⟨m, hm, hi⟩ := hq; exact ⟨m, hm, ρ', m', ad', hi, og, R'⟩
      | brk => cases hg; exact k .next ρ' _ s' m' ad' hq rfl og R'
      | ret v => obtain ⟨w, rfl, hw⟩ := hg; exact k (.ret v) ρ' _ s' m' ad' hq ⟨w, rfl, hw⟩ og R'
noncomputable def V.arg : V → V
  | .new l => .lst l
  | v => v
noncomputable def Ar : V → Bool
  | .none | .bool _ | .int _ | .str _ | .byt _ | .tup _ | .lst _ => true
  | _ => false
noncomputable def AR (h : Heap) (v : V) (w : Value) : Prop := Ar v = true ∧ VR h h v w
theorem VR.arg {h₁ h : Heap} {v : V} {w : Value} (hv : VR h₁ h v w) (ha : Ar v.arg = true) : AR h v.arg w := by
  refine ⟨ha, ?_⟩
  cases v <;> first | exact hv | cases ha | skip
  obtain ⟨a, its, e, _, ⟨n, hp⟩, q⟩ := hv
  exact ⟨a, its, e, ⟨_, hp, rfl, n, rfl⟩, q⟩
theorem VRs.args {h h₁ : Heap} {vs : List V} {ws : List Value} (e : (vs.map V.arg).all Ar = true) (x : VRs h h₁ vs ws) : All2 (AR h) (vs.map V.arg) ws := by
  induction x with
  | nil => exact trivial
  | cons a _ _ ih =>
    rw [List.map_cons, List.all_cons, Bool.and_eq_true] at e
    exact ⟨a.arg e.1, ih e.2⟩
noncomputable def FS (c : Cx) (n : Nat) (fa : Addr) (vs : List V) (P : V → Prop) : Prop :=
  ∀ (A : Around) (s : Shared) (ws : List Value) (R : Result → Shared → Prop), Room A n → Ext c.h₀ s.heap → All2 (AR s.heap) vs ws →
    (∀ v w s', P v → Sx s s' → VR s.heap s'.heap v w → R (.ok (.ret w)) s') → codeAny c.M A (.call (.ref fa) ⟨ws, []⟩) R s
theorem FS.mono {n : Nat} {fa : Addr} {vs : List V} {P P' : V → Prop} (h : FS c n fa vs P) (q : ∀ v, P v → P' v) : FS c n fa vs P' := fun A s ws R hr he ha k => h A s ws R hr he ha fun v w s' hp => k v w s' (q v hp)
theorem WE.call {g : String} {px pos : Pos} {args : List Expr} {Q : V → Prop} {fa : Addr} (ok : c.Ok) (e : nsIn c.K mainGlobals (Str.ofString g) = some (some (.ref fa))) (hf : fnIn c.K fa = true)
    (h : WEs c f ρ args fun vs => (vs.map V.arg).all Ar = true ∧ FS c f.d fa (vs.map V.arg) Q) (hn : f.sc.names.lookup (Str.ofString g) = some .globalImplicit) (hp : args.all plainE = true := by rfl) (hne : args ≠ [] := by simp)
    (hd : (Str.ofString g == ("__debug__" : Str)) = false := by decide +kernel) : WE c f ρ (.Call (.Name (Str.ofString g) px) args [] pos) Q :=
  fun Z s E Qs m ad R k => by
    have b := base_ext R
    refine Call_ (Name_function_global (env := f.env) R.kind hn (loadGlobal_global (env := f.env) (ok.g.keeps b) (mg_of ok.k ok.g e) ?_) hd)
    unfold fnIn at hf
    split at hf <;> try cases hf
    rename_i oc od fd osl ho
    cases args with
    | nil => exact absurd rfl hne
    | cons a rest =>
      have hpa : plainE a = true := by simp only [List.all_cons, Bool.and_eq_true] at hp; exact hp.1
      refine callWith_def (o := ⟨oc, od, .func fd, osl⟩) rfl ?_ (starEach_plain hpa)
      refine wes_spliced hp h Z s E _ m ad R fun vs ws s₁ hq x₁ hv => ⟨(R.ext x₁.x |> base_ext) _ _ (ok.k _ _ ho), ?_⟩
      refine wpAny_call (hq.2 f.A s₁ ws _ R.room (base_ext (R.ext x₁.x)) (hv.args hq.1) fun v w s' hP x₂ hvr => ?_)
      exact k v w s' hP (x₁.trans x₂) (hvr.since x₁.x)
/-- the first state of a def's frame -/
noncomputable def argsLoc : List String → List V → Loc
  | x :: xs, v :: vs => upd (argsLoc xs vs) x (.val v)
  | _, _ => fun _ => Option.none
theorem argsLoc_some : ∀ {xs : List String} {vs : List V} {y : String} {s : S}, argsLoc xs vs y = some s → ∃ (i : Nat) (v : V), xs[i]? = some y ∧ vs[i]? = some v ∧ s = .val v
  | x :: xs, v :: vs, y, s, e => by
    by_cases hy : y = x
    · subst hy
      exact ⟨0, v, by simp, by simp, (Option.some.inj (upd_self.symm.trans e)).symm⟩
    · rw [argsLoc, upd_ne hy] at e
      obtain ⟨i, v', h1, h2, h3⟩ := argsLoc_some e
      exact ⟨i + 1, v', by simpa using h1, by simpa using h2, h3⟩
  | [], _, _, _, e => by simp [argsLoc] at e
  | _ :: _, [], _, _, e => by simp [argsLoc] at e
theorem AR.sr {h h' : Heap} (x : Ext h h') {a : Addr} {v : V} {w : Value} (y : AR h v w) : SR h h' a (.val v) w := by
  obtain ⟨y1, y2⟩ := y
  cases v <;> first | exact y2 | cases y1 | skip
  · exact ER.mono (v := .tup _) x y2
  · rename_i l
    have y3 := VR.mono (v := .lst l) x y2
    obtain ⟨b, its, e, ⟨o, ho, _⟩, _⟩ := y2
    exact ⟨⟨b, o, e, ho⟩, y3⟩
end
section
open _root_.PySem _root_.PySem.W _root_.PySem.Calls _root_.PyProof.Rows
set_option linter.unusedVariables false
variable {c : Cx} {f : Fm} {ρ : Loc}
theorem bindL_off {kd : Str → Option NameKind} : ∀ {binds : List (Str × Value)} {m : Str → Option Value} {n : Str}, n ∉ binds.map (·.1) → bindL kd binds m n = m n
  | [], m, n, _ => rfl
  | (k, v) :: r, m, n, h => by
    simp only [List.map_cons, List.mem_cons, not_or] at h
    unfold bindL
    rw [bindL_off h.2]
    split
    · exact if_neg h.1
    · rfl
theorem bindC_off {kd : Str → Option NameKind} : ∀ {binds : List (Str × Value)} {m : Str → Option Value} {n : Str}, n ∉ binds.map (·.1) → bindC kd binds m n = m n
  | [], m, n, _ => rfl
  | (k, v) :: r, m, n, h => by
    simp only [List.map_cons, List.mem_cons, not_or] at h
    unfold bindC
    rw [bindC_off h.2]
    split
    · rfl
    · exact if_neg h.1
theorem bindL_get {kd : Str → Option NameKind} {binds : List (Str × Value)} {m : Str → Option Value} {n : Str} {v : Value} (hd : (binds.map (·.1)).Nodup) (h : (n, v) ∈ binds) (hk : kd n = some .local) : bindL kd binds m n = some v := by
  induction binds generalizing m with
  | nil => exact nomatch h
  | cons p r ih =>
    obtain ⟨k, u⟩ := p
    rw [List.map_cons, List.nodup_cons] at hd
    unfold bindL
    rcases List.mem_cons.mp h with e | h
    · cases e
      rw [bindL_off hd.1, if_pos hk]; exact if_pos rfl
    · exact ih hd.2 h
theorem bindC_get {kd : Str → Option NameKind} {binds : List (Str × Value)} {m : Str → Option Value} {n : Str} {v : Value} (hd : (binds.map (·.1)).Nodup) (h : (n, v) ∈ binds) (hk : kd n ≠ some .local) : bindC kd binds m n = some v := by
  induction binds generalizing m with
  | nil => exact nomatch h
  | cons p r ih =>
    obtain ⟨k, u⟩ := p
    rw [List.map_cons, List.nodup_cons] at hd
    unfold bindC
    rcases List.mem_cons.mp h with e | h
    · cases e
      rw [bindC_off hd.1, if_neg hk]; exact if_pos rfl
    · exact ih hd.2 h
theorem cellsFrom_keep : ∀ (names : List (Str × NameKind)) (n : Nat) (acc : List (Str × Addr)) (x : Str), (∃ a, acc.lookup x = some a) → ∃ a, (cellsFrom n names acc).lookup x = some a
  | [], n, acc, x, h => h
  | (k, kind) :: r, n, acc, x, h => by
    unfold cellsFrom
    split
    · refine cellsFrom_keep r _ _ x ?_
      rw [List.lookup_cons]
      split
      · exact ⟨_, rfl⟩
      · exact h
    · exact cellsFrom_keep r _ _ x h
theorem cellsFrom_has : ∀ (names : List (Str × NameKind)) (n : Nat) (acc : List (Str × Addr)) (x : Str), names.lookup x = some .cell → ∃ a, (cellsFrom n names acc).lookup x = some a
  | (k, kind) :: r, n, acc, x, h => by
    rw [List.lookup_cons] at h
    unfold cellsFrom
    split at h
    · rename_i q
      cases h
      rw [if_pos (by rfl)]
      refine cellsFrom_keep r _ _ x ⟨n, ?_⟩
      rw [List.lookup_cons, q]
    · split <;> exact cellsFrom_has r _ _ x h
noncomputable def fmC (scope : Scope) (L : Addr) (qual : Str) (fa : Addr) (code : Value) (A : Around) (he : Heap) (n : Nat) : Fm :=
  { sc := scope, L := L, cells := cellsFrom (L + 1) scope.names [], qual := qual, func := some fa, code := code, frame := some L, A := A, he := he, d := n }
theorem rel_cells {s s' : Shared} {scope : Scope} {qual : Str} {fa : Addr} {code : Value} {A : Around} {n : Nat} {vs : List V} {ws : List Value} {xs : List String} (hk : scope.kind = .function) (hr : Room A n) (he : Ext c.h₀ s.heap) (ha : All2 (AR s.heap) vs ws)
    (hx : xs.Nodup) (hlen : xs.length = vs.length) (hxl : ∀ x ∈ xs, scope.names.lookup (Str.ofString x) = some .local ∨ (scope.names.lookup (Str.ofString x) = some .cell ∧ (Str.ofString x == ("__classdict__" : Str)) = false))
    (X : InCallC s s.heap.objs.size (bindL (fmC scope s.heap.objs.size qual fa code A s.heap n).env.kindOf ((xs.map Str.ofString).zip ws) fun _ => none) (cellsFrom (s.heap.objs.size + 1) scope.names []) (bindC (fmC scope s.heap.objs.size qual fa code A s.heap n).env.kindOf ((xs.map Str.ofString).zip ws) fun _ => none) s') :
    Rel c (fmC scope s.heap.objs.size qual fa code A s.heap n) (fun b o => s.heap.get? b = some o) (argsLoc xs vs) s'.heap (bindL (fmC scope s.heap.objs.size qual fa code A s.heap n).env.kindOf ((xs.map Str.ofString).zip ws) fun _ => none) (fun _ => 0) := by
  have hwl := ha.length
  have hnd : ((xs.map Str.ofString).zip ws).map (·.1) = xs.map Str.ofString := by
    rw [List.map_fst_zip]; simp; omega
  have hn2 : (((xs.map Str.ofString).zip ws).map (·.1)).Nodup := by
    rw [hnd]
    exact List.pairwise_map.mpr (List.Pairwise.imp (fun hab e => hab (str_inj e)) hx)
  have X' : Ext s.heap s'.heap := X.toInCall.keep
  have hig : ∀ (x : Str) (a : Addr), (cellsFrom (s.heap.objs.size + 1) scope.names []).lookup x = some a → s.heap.objs.size < a := fun x a e => X.above x a (mem_of_lookup e)
  refine ⟨hk, hr, he, fun _ _ e => e, X', X.toInCall.ns, fun o e => ?_, fun x a _ e2 o e => ?_, fun x e => ?_, fun x y a e1 e2 => ?_, fun y st e => ?_, fun y o e => ?_, fun y z b l l' e => ?_⟩
  · exact absurd (Heap.lt_size e) (Nat.lt_irrefl _)
  · exact absurd (Nat.lt_trans (Heap.lt_size e) (hig x a e2)) (Nat.lt_irrefl _)
  · obtain ⟨a, ha'⟩ := cellsFrom_has scope.names (s.heap.objs.size + 1) [] x e
    exact ⟨a, _, ha', X.cell x a ha'⟩
  · exact name_of_addr X.apart (mem_of_lookup e1) (mem_of_lookup e2)
  · obtain ⟨i, v, e1, e2, rfl⟩ := argsLoc_some e
    obtain ⟨w, e3, hw⟩ := ha.get e2
    have hm : (Str.ofString y, w) ∈ (xs.map Str.ofString).zip ws := by
      have h1 : (xs.map Str.ofString)[i]? = some (Str.ofString y) := by rw [List.getElem?_map, e1]; rfl
      have : ((xs.map Str.ofString).zip ws)[i]? = some (Str.ofString y, w) := by
        rw [List.getElem?_zip_eq_some]; exact ⟨h1, e3⟩
      exact List.mem_of_getElem? this
    refine ⟨w, ?_, hw.sr X'⟩
    rcases hxl y (List.mem_of_getElem? e1) with hl | ⟨hl, hc⟩
    · exact .inl ⟨hl, bindL_get hn2 hm hl⟩
    · obtain ⟨a, ha'⟩ := cellsFrom_has scope.names (s.heap.objs.size + 1) [] _ hl
      refine .inr ⟨.inl hl, hc, a, ha', ?_⟩
      have := X.cell _ a ha'
      rw [bindC_get hn2 hm (by show scope.names.lookup _ ≠ _; rw [hl]; decide)] at this
      exact this
  · obtain ⟨i, v, _, _, e⟩ := argsLoc_some e; cases e
  · obtain ⟨i, v, _, _, e⟩ := argsLoc_some e; cases e
end
section
open _root_.PySem _root_.PySem.W _root_.PySem.Calls _root_.PyProof.Rows
set_option linter.unusedVariables false
variable {c : Cx} {f : Fm} {ρ : Loc}
theorem kind_cells {scope : Scope} {xs : List String} {ws : List Value} {L : Nat} (hxl : ∀ x ∈ xs, scope.names.lookup (Str.ofString x) = some .local ∨ (scope.names.lookup (Str.ofString x) = some .cell ∧ (Str.ofString x == ("__classdict__" : Str)) = false)) :
    ∀ y ∈ (xs.map Str.ofString).zip ws, scope.names.lookup y.1 = some .local ∨ (scope.names.lookup y.1 = some .cell ∧ ((cellsFrom (L + 1) scope.names []).lookup y.1).isSome = true) := by
  intro y hy
  have := (List.of_mem_zip hy).1
  obtain ⟨x, hx', e⟩ := List.mem_map.mp this
  rw [← e]
  rcases hxl x hx' with h | ⟨h, _⟩
  · exact .inl h
  · obtain ⟨a, ha⟩ := cellsFrom_has scope.names (L + 1) [] _ h
    exact .inr ⟨h, by rw [ha]; rfl⟩
theorem room_deeper {A : Around} {n : Nat} {env : Env} (hr : Room A (n + 1)) : Room (A.deeper env) n := by
  refine ⟨hr.handled, ?_, ?_⟩
  · exact hr.depth1
  · exact hr.units1
theorem FS.introC {n : Nat} {fa : Addr} {vs : List V} {P : V → Prop} (ok : c.Ok) {name qual : Str} {params : Arguments} {body : List Stmt} {scope : Scope} {dV kV doc pm cdv ct oc : Value} {an od : Option Addr} {osl : Array (Option Value)} {xs : List String}
    (ho : c.K.lookup fa = some ⟨oc, od, .func (fnOf name qual params body scope dV kV doc pm an cdv ct), osl⟩) (hcd : codeIn c.K cdv qual = true)
    (hbind : ∀ ws : List Value, ws.length = vs.length → bindArgs (fnOf name qual params body scope dV kV doc pm an cdv ct) ⟨ws, []⟩ = pure ((xs.map Str.ofString).zip ws))
    (hx : xs.Nodup) (hxl : ∀ x ∈ xs, scope.names.lookup (Str.ofString x) = some .local ∨ (scope.names.lookup (Str.ofString x) = some .cell ∧ (Str.ofString x == ("__classdict__" : Str)) = false)) (hlen : xs.length = vs.length)
    (h : ∀ L qual fa code A he, WB c (fmC scope L qual fa code A he n) (argsLoc xs vs) body (retQ P))
    (hco : scope.isCoroutine = false := by rfl) (hgen : scope.isGenerator = false := by rfl) (hk : scope.kind = .function := by rfl) : FS c (n + 1) fa vs P := by
  intro A s ws R hr he ha k
  have hwl := ha.length
  refine codeAny_call_cells (fd := fnOf name qual params body scope dV kV doc pm an cdv ct) (binds := (xs.map Str.ofString).zip ws) hr.lt (he _ _ (ok.k _ _ ho)) rfl (ok.nolimit.keeps he) ((codeRec_of ok.k hcd).keeps he) rfl
    (hbind ws hwl.symm) rfl (kind_cells hxl) (fun s₁ X => ?_) hco hgen hk
  have R0 := rel_cells (c := c) (qual := qual ++ ".<locals>.") (fa := fa) (code := cdv) hk (room_deeper (env := callEnvC (fnOf name qual params body scope dV kV doc pm an cdv ct) s.heap.objs.size fa) hr) he ha hx hlen hxl X
  have og₁ : Og s s₁ := by obtain ⟨h₁, tk, rfl⟩ := X.toInCall.same; exact ⟨rfl, rfl⟩
  refine h _ _ _ _ _ _ _ s₁ _ _ _ _ R0 fun fl ρ' g s' m' ad' hq hg og R' => ?_
  have hh : Sx s s' := ⟨R'.z, og.os.trans og₁.os, og.gens.trans og₁.gens⟩
  cases fl with
  | next => cases hg; exact k .none .none s' hq hh rfl
  | ret v => obtain ⟨w, rfl, hw⟩ := hg; exact k v w s' hq hh hw
  | brk => exact hq.elim
  | cont => exact hq.elim
end
section
open _root_.PySem _root_.PySem.W _root_.PySem.Calls _root_.PyProof.Rows
variable {c : Cx} {f : Fm} {ρ : Loc}
theorem Op.add (a b : Int) : Op2 c (binaryOp .Add) (.int a) (.int b) (.int (a + b)) := by
  rintro wa wb h₁ h₂ A s E Qs _ _ ⟨t, rfl⟩ ⟨u, rfl⟩ k; exact PyProof.Rows.add_int (k _ _ ⟨Ext.refl _, rfl, rfl⟩ ⟨_, rfl⟩)
theorem Op.sub (a b : Int) : Op2 c (binaryOp .Sub) (.int a) (.int b) (.int (a - b)) := by
  rintro wa wb h₁ h₂ A s E Qs _ _ ⟨t, rfl⟩ ⟨u, rfl⟩ k; exact PyProof.Rows.sub_int (k _ _ ⟨Ext.refl _, rfl, rfl⟩ ⟨_, rfl⟩)
theorem small_bits {a : Int} (h : a.natAbs < 2 ^ 60) : Builtin.Int.intBits a ≤ 64 := intBits_le_64 (by omega) (by omega)
theorem mul_ok {a b : Int} (h : a.natAbs < 2 ^ 60 ∨ b.natAbs < 2 ^ 60) : IntMulOk a b := by
  unfold IntMulOk
  have : shortFactorBits = 64 := rfl
  rcases h with h | h <;> have := small_bits h <;> simp only [Bool.and_eq_true, decide_eq_true_eq] <;> omega
theorem Op.mul {a b : Int} (h : a.natAbs < 2 ^ 60 ∨ b.natAbs < 2 ^ 60) : Op2 c (binaryOp .Mult) (.int a) (.int b) (.int (a * b)) := by
  rintro wa wb h₁ h₂ A s E Qs _ _ ⟨t, rfl⟩ ⟨u, rfl⟩ k; exact PyProof.Rows.mul_int (k _ _ ⟨Ext.refl _, rfl, rfl⟩ ⟨_, rfl⟩) (mul_ok h)
theorem Op.mod {a b : Int} (h : b ≠ 0) : Op2 c (binaryOp .Mod) (.int a) (.int b) (.int (a.fmod b)) := by
  rintro wa wb h₁ h₂ A s E Qs _ _ ⟨t, rfl⟩ ⟨u, rfl⟩ k; exact PyProof.Rows.mod_int' h (k _ _ ⟨Ext.refl _, rfl, rfl⟩ ⟨_, rfl⟩)
theorem Op.fdiv {a b : Int} (h : b ≠ 0) (hb : b.natAbs < 1073741824) : Op2 c (binaryOp .FloorDiv) (.int a) (.int b) (.int (a.fdiv b)) := by
  rintro wa wb h₁ h₂ A s E Qs _ _ ⟨t, rfl⟩ ⟨u, rfl⟩ k; exact PyProof.Rows.floordiv_int h (k _ _ ⟨Ext.refl _, rfl, rfl⟩ ⟨_, rfl⟩) (.inl (PyProof.noPylong_small hb))
theorem Op.pow106 : Op2 c (binaryOp .Pow) (.int 10) (.int 6) (.int 1000000) := by
  rintro wa wb h₁ h₂ A s E Qs _ _ ⟨t, rfl⟩ ⟨u, rfl⟩ k; exact PyProof.Rows.pow_int (by decide) (by decide +kernel) (k _ _ ⟨Ext.refl _, rfl, rfl⟩ ⟨_, rfl⟩)
theorem Op.eq (a b : Int) : Op2 c (compareOp .Eq) (.int a) (.int b) (.bool (a == b)) := by
  rintro wa wb h₁ h₂ A s E Qs _ _ ⟨t, rfl⟩ ⟨u, rfl⟩ k; exact PyProof.Rows.eq_int (k _ _ ⟨Ext.refl _, rfl, rfl⟩ rfl)
theorem Op.ne (a b : Int) : Op2 c (compareOp .NotEq) (.int a) (.int b) (.bool (a != b)) := by
  rintro wa wb h₁ h₂ A s E Qs _ _ ⟨t, rfl⟩ ⟨u, rfl⟩ k; exact PyProof.Rows.ne_int (k _ _ ⟨Ext.refl _, rfl, rfl⟩ rfl)
theorem Op.lt (a b : Int) : Op2 c (compareOp .Lt) (.int a) (.int b) (.bool (decide (a < b))) := by
  rintro wa wb h₁ h₂ A s E Qs _ _ ⟨t, rfl⟩ ⟨u, rfl⟩ k; exact PyProof.Rows.lt_int (k _ _ ⟨Ext.refl _, rfl, rfl⟩ rfl)
theorem Op.gt (a b : Int) : Op2 c (compareOp .Gt) (.int a) (.int b) (.bool (decide (b < a))) := by
  rintro wa wb h₁ h₂ A s E Qs _ _ ⟨t, rfl⟩ ⟨u, rfl⟩ k; exact PyProof.Rows.gt_int (k _ _ ⟨Ext.refl _, rfl, rfl⟩ rfl)
theorem Op.eqb (a b : Bool) : Op2 c (compareOp .Eq) (.bool a) (.bool b) (.bool (a == b)) := by
  rintro wa wb h₁ h₂ A s E Qs _ _ rfl rfl k; exact PyProof.Rows.eq_bool (k _ _ ⟨Ext.refl _, rfl, rfl⟩ rfl)
theorem Op.neg (a : Int) : Op1 c (unaryOp .USub) (.int a) (.int (-a)) := by
  rintro wa h₁ A s E Qs _ _ ⟨t, rfl⟩ k; exact PyProof.Rows.neg_int (k _ _ ⟨Ext.refl _, rfl, rfl⟩ ⟨_, rfl⟩)
theorem Op.iadd (a b : Int) : Op2 c (inplaceOp .Add) (.int a) (.int b) (.int (a + b)) := by
  rintro wa wb h₁ h₂ A s E Qs _ _ ⟨t, rfl⟩ ⟨u, rfl⟩ k; exact PyProof.Rows.iadd_int (k _ _ ⟨Ext.refl _, rfl, rfl⟩ ⟨_, rfl⟩)
theorem Op.isub (a b : Int) : Op2 c (inplaceOp .Sub) (.int a) (.int b) (.int (a - b)) := by
  rintro wa wb h₁ h₂ A s E Qs _ _ ⟨t, rfl⟩ ⟨u, rfl⟩ k; exact AutoIntOps.isub_0 (k _ _ ⟨Ext.refl _, rfl, rfl⟩ ⟨_, rfl⟩)
theorem mk_append (x y : List Nat) : (⟨x.toArray⟩ : Str) ++ ⟨y.toArray⟩ = ⟨(x ++ y).toArray⟩ := by
  show Str.append _ _ = _
  unfold Str.append
  simp
theorem Op.addS {x y : List Nat} (h : x.length + y.length ≤ 100000) : Op2 c (binaryOp .Add) (.str x) (.str y) (.str (x ++ y)) := by
  rintro wa wb h₁ h₂ A s E Qs _ _ ⟨t, rfl⟩ ⟨u, rfl⟩ k
  refine PyProof.Rows.add_str (fun t' tk => ?_) (by rw [sizeLine_eq]; simp only [Str.length, List.size_toArray]; omega)
  rw [mk_append]; exact k _ _ ⟨Ext.refl _, rfl, rfl⟩ ⟨_, rfl⟩
theorem Op.iaddS {x y : List Nat} (h : x.length + y.length ≤ 100000) : Op2 c (inplaceOp .Add) (.str x) (.str y) (.str (x ++ y)) := by
  rintro wa wb h₁ h₂ A s E Qs _ _ ⟨t, rfl⟩ ⟨u, rfl⟩ k
  refine PyProof.Rows.iadd_str (fun t' tk => ?_) (by rw [sizeLine_eq]; simp only [Str.length, List.size_toArray]; omega)
  rw [mk_append]; exact k _ _ ⟨Ext.refl _, rfl, rfl⟩ ⟨_, rfl⟩
theorem mk_beq (x y : List Nat) : ((⟨x.toArray⟩ : Str) == ⟨y.toArray⟩) = (x == y) := by
  rw [Bool.eq_iff_iff, beq_iff_eq, beq_iff_eq]
  constructor
  · intro e; injection e with e; simpa using congrArg Array.toList e
  · intro e; rw [e]
theorem Op.eqS (x y : List Nat) : Op2 c (compareOp .Eq) (.str x) (.str y) (.bool (x == y)) := by
  rintro wa wb h₁ h₂ A s E Qs _ _ ⟨t, rfl⟩ ⟨u, rfl⟩ k
  refine PyProof.Rows.eq_str ?_
  rw [mk_beq]; exact k _ _ ⟨Ext.refl _, rfl, rfl⟩ rfl
theorem Op.tb (b : Bool) : Op1B c truthy (.bool b) b := by
  rintro wa h₁ A s E Qs _ _ rfl k; exact wpAny_truthy_bool (k _ ⟨Ext.refl _, rfl, rfl⟩)
theorem Op.ti (a : Int) : Op1B c truthy (.int a) (a != 0) := by
  rintro wa h₁ A s E Qs _ _ ⟨t, rfl⟩ k; exact PyProof.Rows.truthy_int (k _ ⟨Ext.refl _, rfl, rfl⟩)
theorem Op.ts {x : List Nat} (h : x.length ≤ 100000) : Op1B c truthy (.str x) (!x.isEmpty) := by
  rintro wa h₁ A s E Qs _ _ ⟨t, rfl⟩ k
  refine PySem.P.truthy_str (by simp only [Str.length, List.size_toArray]; omega) ?_
  have : (((⟨x.toArray⟩ : Str).length : Int) != 0) = !x.isEmpty := by cases x <;> simp [Str.length]; omega
  rw [this]; exact k _ ⟨Ext.refl _, rfl, rfl⟩
noncomputable def intl (l : List Int) : List V := l.map V.int
theorem intl_are {h : Heap} : ∀ {l : List Int} {ws : List Value}, All2 (ER h) (intl l) ws → IntsAre ws l
  | [], [], _ => .nil
  | _ :: _, _ :: _, ⟨⟨t, e⟩, r⟩ => by subst e; exact .cons _ t (intl_are r)
  | [], _ :: _, x => x.elim
  | _ :: _, [], x => x.elim
theorem are_intl {h : Heap} {l : List Int} {ws : List Value} (x : IntsAre ws l) : All2 (ER h) (intl l) ws := by
  induction x with
  | nil => trivial
  | cons n t _ ih => exact ⟨⟨t, rfl⟩, ih⟩
noncomputable def V.list? : V → Option (List V)
  | .lst l => some l
  | .new l => some l
  | _ => Option.none
theorem VR.isList {h₁ h : Heap} {v : V} {w : Value} {l : List V} (hv : VR h₁ h v w) (e : v.list? = some l) : ∃ a items, w = .ref a ∧ h.IsList a items ∧ All2 (ER h) l items.toList := by
  cases v <;> try exact nomatch (show (Option.none : Option (List V)) = some l from e)
  · cases (show some _ = some l from e); exact hv
  · cases (show some _ = some l from e); obtain ⟨a, its, e, _, ⟨n, hp⟩, q⟩ := hv; exact ⟨a, its, e, ⟨_, hp, rfl, n, rfl⟩, q⟩
theorem VR.nums {h₁ h : Heap} {v : V} {w : Value} {l : List Int} (hv : VR h₁ h v w) (e : v.list? = some (intl l)) : ∃ a, w = .ref a ∧ KTD.Nums h a l := by
  obtain ⟨a, its, e, hl, q⟩ := hv.isList e
  exact ⟨a, e, its.toList, by simpa using hl, intl_are q⟩
theorem inNums_eq {k : Int} {l : List Int} : KTD.inNums k l = decide (k ∈ l) := by
  rw [← KTD.any_nums, Bool.eq_iff_iff, List.any_eq_true, decide_eq_true_eq]
  constructor
  · rintro ⟨x, hx, e⟩; rw [← beq_iff_eq.mp e]; exact hx
  · intro h; exact ⟨k, h, beq_self_eq_true k⟩
theorem Op.inL {k : Int} {v : V} {l : List Int} (e : v.list? = some (intl l)) : Op2 c (compareOp .In) (.int k) v (.bool (decide (k ∈ l))) := by
  rintro wa wb h₁ h₂ A s E Qs _ _ ⟨t, rfl⟩ hv kk
  obtain ⟨a, rfl, hn⟩ := hv.nums e
  refine KTD.in_nums hn (fun _ _ e => e) ?_
  rw [inNums_eq]; exact kk _ _ ⟨Ext.refl _, rfl, rfl⟩ rfl
theorem Op.notinL {k : Int} {v : V} {l : List Int} (e : v.list? = some (intl l)) : Op2 c (compareOp .NotIn) (.int k) v (.bool (!decide (k ∈ l))) := by
  rintro wa wb h₁ h₂ A s E Qs _ _ ⟨t, rfl⟩ hv kk
  obtain ⟨a, rfl, hn⟩ := hv.nums e
  refine KTD.notin_nums hn (fun _ _ e => e) ?_
  rw [inNums_eq]; exact kk _ _ ⟨Ext.refl _, rfl, rfl⟩ rfl
theorem Op.item {va : V} {l : List V} {k : Int} {x : V} {e₁ e₂ : Expr} (e : va.list? = some l) (h0 : 0 ≤ k) (hx : l[k.toNat]? = some x) (hk : k < 100000) (hs : ∀ o i, subscripted e₂ false o i = operate [o, i] (getItem o i) := by intros; rfl) : Op2 c (subscriptTail e₁ e₂) va (.int k) x := by
  rintro wa wb h₁ h₂ A s E Qs _ _ hv ⟨t, rfl⟩ kk
  obtain ⟨a, its, rfl, hl, q⟩ := hv.isList e
  obtain ⟨w, hw, hr⟩ := q.get hx
  refine tail_any hl.typeIs slot_list_getitem.lookup (wpAny_getItem_list hl h0 (by omega) (by simpa using hw) (kk w s ⟨Ext.refl _, rfl, rfl⟩ ?_)) (hs _ _)
  cases x <;> first | exact hr | exact hr.elim
end
section
open _root_.PySem _root_.PySem.W _root_.PySem.Calls _root_.PyProof.Rows
variable {c : Cx} {f : Fm} {ρ : Loc}
/-- an operation of values in a row -/
noncomputable def OpN (c : Cx) (t : List Value → Sem Value) (vs : List V) (r : V) : Prop :=
  ∀ (ws : List Value) (h₁ : Heap) (A : Around) (s : Shared) (E : Value → Shared → Prop) (Qs : Value → Shared → Prop), Room A 0 → Ext c.h₀ s.heap → VRs s.heap h₁ vs ws →
    (∀ w s', Sx s s' → VR s.heap s'.heap r w → Qs w s') → wpAny c.M A (t ws) Qs E s
theorem OpN.one {t : Value → Sem Value} {v r : V} (h : Op1 c t v r) {g : List Value → Sem Value} (e : ∀ w, g [w] = t w := by intro _; rfl) : OpN c g [v] r := by
  rintro _ h₁ A s E Qs hr hb (_ | ⟨hv, _, (_ | _)⟩) k
  rw [e]; exact h _ h₁ A s E Qs hr hb hv k
theorem OpN.two {t : Value → Value → Sem Value} {v v' r : V} (h : Op2 c t v v' r) {g : List Value → Sem Value} (e : ∀ w w', g [w, w'] = t w w' := by intro _ _; rfl) : OpN c g [v, v'] r := by
  rintro _ h₁ A s E Qs hr hb (_ | ⟨hv, _, (_ | ⟨hv', _, (_ | _)⟩)⟩) k
  rw [e]; exact h _ _ h₁ _ A s E Qs hr hb hv hv' k
theorem WE.bi {g : String} {px pos : Pos} {args : List Expr} {Q : V → Prop} {fv : Value} (ok : c.Ok) (e : nsIn c.K mainGlobals (Str.ofString g) = some Option.none) (hb : bootBuiltins (Str.ofString g) = some fv) (hk : keeperOf fv = pure .machine)
    (h : WEs c f ρ args fun vs => ∃ r, OpN c (fun ws => PySem.call fv ws) vs r ∧ Q r) (hn : f.sc.names.lookup (Str.ofString g) = some .globalImplicit) (hp : args.all plainE = true := by rfl) (hne : args ≠ [] := by simp)
    (hd : (Str.ofString g == ("__debug__" : Str)) = false := by decide +kernel) (hnm : Str.ofString g ≠ "__name__" := by decide +kernel) : WE c f ρ (.Call (.Name (Str.ofString g) px) args [] pos) Q :=
  fun Z s E Qs m ad R k => by
    have b := base_ext R
    refine Call_ (Name_function_global (env := f.env) R.kind hn (loadGlobal_builtin (env := f.env) (ok.g.keeps b) (ns_none_of ok.k ok.g e) (ok.b.keeps b) ((ok.builtins _ hnm).trans hb) ?_) hd)
    cases args with
    | nil => exact absurd rfl hne
    | cons a rest =>
      have hpa : plainE a = true := by simp only [List.all_cons, Bool.and_eq_true] at hp; exact hp.1
      have hpr : rest.all plainE = true := by simp only [List.all_cons, Bool.and_eq_true] at hp; exact hp.2
      have key : ∀ es : List Expr, es.all plainE = true → (backTo pos (starEach es f.env)).any (·.1) = false := by
        intro es
        induction es with
        | nil => intro _; rfl
        | cons x r ih =>
          intro h
          simp only [List.all_cons, Bool.and_eq_true] at h
          rw [starEach_plain h.1]
          show (false || (backTo pos (starEach r f.env)).any (·.1)) = false
          rw [ih h.2]; rfl
      refine callWith_of (P := fun _ => True) (first := []) ?_ (fun h _ => ⟨.machine, .inr (.inl rfl), Looks.of_pure hk⟩) ?_
      · rw [key _ hp]; rfl
      · rw [starEach_plain hpa]
        show wpAny _ _ (evalArgs _ true ((false, eval a f.env) :: backTo pos (starEach rest f.env)) []) _ _ _
        refine evalArgs_plain ?_
        have hs := wes_spliced (pos := pos) hp h Z s E (fun ws s' => True ∧ wpAny c.M f.A (PySem.call fv ([] ++ ws) []) Qs E s') m ad R fun vs ws s₁ hq x₁ hv => ?_
        · rw [starEach_plain hpa] at hs; exact hs
        · obtain ⟨r, ho, hq⟩ := hq
          exact ⟨trivial, ho ws _ f.A s₁ E _ R.room.zero (base_ext (R.ext x₁.x)) hv fun w s' x₂ hvr => k r w s' hq (x₁.trans x₂) (hvr.since x₁.x)⟩
theorem Op.len {v : V} {l : List V} (e : v.list? = some l) (hl : l.length ≤ 100000) : Op1 c (fun w => PySem.call (.builtin "len") [w]) v (.int l.length) := by
  rintro wa h₁ A s E Qs _ _ hv k
  obtain ⟨a, its, rfl, hi, q⟩ := hv.isList e
  have e2 : its.size = l.length := by rw [q.length]; simp
  refine call_len_list hi (by omega) ?_
  rw [e2]; exact k _ _ ⟨Ext.refl _, rfl, rfl⟩ ⟨_, rfl⟩
theorem Op.lenS {x : List Nat} (hl : x.length ≤ 100000) : Op1 c (fun w => PySem.call (.builtin "len") [w]) (.str x) (.int x.length) := by
  rintro wa h₁ A s E Qs _ _ ⟨t, rfl⟩ k
  refine PyProof.Rows.len_str (by simp only [Str.length, List.size_toArray]; omega) ?_
  have : (⟨x.toArray⟩ : Str).length = x.length := by simp [Str.length]
  rw [this]; exact k _ _ ⟨Ext.refl _, rfl, rfl⟩ ⟨_, rfl⟩
theorem Op.lenB {x : List Nat} (hl : x.length ≤ 100000) : Op1 c (fun w => PySem.call (.builtin "len") [w]) (.byt x) (.int x.length) := by
  rintro wa h₁ A s E Qs _ _ ⟨b, t, rfl, e⟩ k
  have e2 : (KBw.bInts b).length = x.length := by rw [KBw.ints_length, ← e]; simp
  refine KBw.len_K (ks := KBw.bInts b) rfl (by omega) ?_
  rw [e2]; exact k _ _ ⟨Ext.refl _, rfl, rfl⟩ ⟨_, rfl⟩
noncomputable def isort (l : List Int) : List Int := l.mergeSort (fun a b => decide (a ≤ b))
theorem isort_pw (l : List Int) : (isort l).Pairwise (· ≤ ·) := by
  have := List.pairwise_mergeSort (le := fun a b : Int => decide (a ≤ b)) (fun a b c h1 h2 => by simp at *; omega) (fun a b => by simp; omega) l
  exact this.imp (by simp)
theorem Op.sorted {v : V} {l : List Int} (e : v.list? = some (intl l)) (hl : l.length < 64) : Op1 c (fun w => PySem.call (.builtin "sorted") [w]) v (.new (intl (isort l))) := by
  rintro wa h₁ A s E Qs _ _ hv k
  obtain ⟨a, its, rfl, hi, q⟩ := hv.isList e
  have hI := intl_are q
  have e2 : its.toList.length = l.length := hI.length
  refine sorted_ints (vs := its.toList) (by simpa using hi) hI (by omega) fun out ns' a1 a2 a3 => ?_
  obtain ⟨ep, he⟩ := sortedAll_at s.heap its.toList out
  have : ns' = isort l := ksm_same (a2.trans (List.mergeSort_perm l _).symm) a3 (isort_pw l)
  subst this
  refine k _ _ ⟨fun _ _ => sortedAll_old, rfl, rfl⟩ ⟨_, out, rfl, ?_, ⟨ep, he⟩, are_intl a1⟩
  cases q : s.heap.get? (s.heap.objs.size + 1) with
  | none => rfl
  | some o => exact absurd (Heap.lt_size q) (Nat.not_lt.mpr (Nat.le_succ _))
theorem rsize {a b : Int} {n : Nat} (h : n = (b - a).toNat) : Builtin.Range.rangeSize a b 1 = n := by
  rw [rangeSize_one]; split <;> omega
theorem Op.range1 {b : Int} (hb : -1000000 ≤ b ∧ b ≤ 1000000) : Op1 c (fun w => PySem.call (.type "range") [w]) (.int b) (.rng 0 1 b.toNat) := by
  rintro wa h₁ A s E Qs _ _ ⟨t, rfl⟩ k
  exact call_range_1 (k _ _ ⟨Ext.push _ _, rfl, rfl⟩ ⟨_, rfl, b, _, _, _, IsRange.new .., small_one (by omega) (by omega) (by omega) (by omega), rsize (by simp)⟩)
theorem Op.range2 {a b : Int} (ha : -1000000 ≤ a ∧ a ≤ 1000000) (hb : -1000000 ≤ b ∧ b ≤ 1000000) : Op2 c (fun w w' => PySem.call (.type "range") [w, w']) (.int a) (.int b) (.rng a 1 (b - a).toNat) := by
  rintro wa wb h₁ h₂ A s E Qs _ _ ⟨t, rfl⟩ ⟨u, rfl⟩ k
  exact call_range_2 (k _ _ ⟨Ext.push _ _, rfl, rfl⟩ ⟨_, rfl, b, _, _, _, IsRange.new .., small_one (by omega) (by omega) (by omega) (by omega), rsize rfl⟩)
end
section
open _root_.PySem _root_.PySem.W _root_.PySem.Calls _root_.PyProof.Rows
variable {c : Cx} {f : Fm} {ρ : Loc}
/-- the text's own objects, but for the two tables of places that turn while the law runs -/
noncomputable def kk (P : Params) : Frag := (pre.heap_1 P).filter fun p => !(p.1 == 147 || p.1 == 154)
structure Here (c : Cx) : Prop where
  ok : c.Ok
  K : c.K = kk c.w.params
noncomputable def BI (c : Cx) (g : String) (fv : Value) : Prop :=
  nsIn c.K mainGlobals (Str.ofString g) = some Option.none ∧ bootBuiltins (Str.ofString g) = some fv ∧ keeperOf fv = pure .machine ∧ (Str.ofString g == ("__debug__" : Str)) = false ∧ Str.ofString g ≠ "__name__"
set_option maxRecDepth 100000 in
theorem bi_len (H : Here c) : BI c "len" (.builtin "len") := ⟨by rw [H.K]; kernel_rfl, by kernel_rfl, rfl, by decide +kernel, by decide +kernel⟩
set_option maxRecDepth 100000 in
theorem bi_min (H : Here c) : BI c "min" (.builtin "min") := ⟨by rw [H.K]; kernel_rfl, by kernel_rfl, rfl, by decide +kernel, by decide +kernel⟩
set_option maxRecDepth 100000 in
theorem bi_sorted (H : Here c) : BI c "sorted" (.builtin "sorted") := ⟨by rw [H.K]; kernel_rfl, by kernel_rfl, rfl, by decide +kernel, by decide +kernel⟩
set_option maxRecDepth 100000 in
theorem bi_sum (H : Here c) : BI c "sum" (.builtin "sum") := ⟨by rw [H.K]; kernel_rfl, by kernel_rfl, rfl, by decide +kernel, by decide +kernel⟩
set_option maxRecDepth 100000 in
theorem bi_range (H : Here c) : BI c "range" (.type "range") := ⟨by rw [H.K]; kernel_rfl, by kernel_rfl, rfl, by decide +kernel, by decide +kernel⟩
set_option maxRecDepth 100000 in
theorem bi_list (H : Here c) : BI c "list" (.type "list") := ⟨by rw [H.K]; kernel_rfl, by kernel_rfl, rfl, by decide +kernel, by decide +kernel⟩
set_option maxRecDepth 100000 in
theorem bi_bytes (H : Here c) : BI c "bytes" (.type "bytes") := ⟨by rw [H.K]; kernel_rfl, by kernel_rfl, rfl, by decide +kernel, by decide +kernel⟩
set_option maxRecDepth 100000 in
theorem bi_bytearray (H : Here c) : BI c "bytearray" (.type "bytearray") := ⟨by rw [H.K]; kernel_rfl, by kernel_rfl, rfl, by decide +kernel, by decide +kernel⟩
set_option maxRecDepth 100000 in
theorem bi_str (H : Here c) : BI c "str" (.type "str") := ⟨by rw [H.K]; kernel_rfl, by kernel_rfl, rfl, by decide +kernel, by decide +kernel⟩
set_option maxRecDepth 100000 in
theorem bi_ord (H : Here c) : BI c "ord" (.builtin "ord") := ⟨by rw [H.K]; kernel_rfl, by kernel_rfl, rfl, by decide +kernel, by decide +kernel⟩
set_option maxRecDepth 100000 in
theorem bi_chr (H : Here c) : BI c "chr" (.builtin "chr") := ⟨by rw [H.K]; kernel_rfl, by kernel_rfl, rfl, by decide +kernel, by decide +kernel⟩
set_option maxRecDepth 100000 in
theorem bi_divmod (H : Here c) : BI c "divmod" (.builtin "divmod") := ⟨by rw [H.K]; kernel_rfl, by kernel_rfl, rfl, by decide +kernel, by decide +kernel⟩
theorem WE.bic {g : String} {fv : Value} (b : BI c g fv) (ok : c.Ok) {px pos : Pos} {args : List Expr} {Q : V → Prop} (hn : f.sc.names.lookup (Str.ofString g) = some .globalImplicit)
    (h : WEs c f ρ args fun vs => ∃ r, OpN c (fun ws => PySem.call fv ws) vs r ∧ Q r) (hp : args.all plainE = true := by rfl) (hne : args ≠ [] := by simp) : WE c f ρ (.Call (.Name (Str.ofString g) px) args [] pos) Q :=
  WE.bi ok b.1 b.2.1 b.2.2.1 h hn hp hne b.2.2.2.1 b.2.2.2.2
theorem WS.ret_own {x : String} {px pos : Pos} {Q : Fl → Loc → Prop} {l : List V} (hx : ρ x = some (.own (.list l))) (q : Q (.ret (.new l)) ρ) (hd : (Str.ofString x == ("__debug__" : Str)) = false := by decide +kernel) :
    WS c f ρ (.Return (some (.Name (Str.ofString x) px)) pos) Q :=
  fun Z s E Qs m ad R k => by
    obtain ⟨w, ha, hw, items, hp, hal⟩ := R.var x _ hx
    obtain ⟨n1, n2, n3, n4⟩ := R.own x _ hx
    refine wpAny_Return_some (wpAny_Name (loadName_at R.kind R.ns ha (k _ _ _ _ _ _ q ⟨w, rfl, ad x, items, hw, ?_, hp, hal⟩ (.refl _) R)) hd)
    cases e : f.he.get? (ad x) with
    | none => rfl
    | some o => exact absurd (R.entry _ _ e) (n2 o)
end
section
open _root_.PySem _root_.PySem.W _root_.PySem.Calls _root_.PyProof.Rows
variable {c : Cx} {f : Fm} {ρ : Loc}
theorem Op.itemD {d : List (Int × V)} {k : Int} {x : V} {e₁ e₂ : Expr} {va : V} (hva : va = .dct d ∨ va = .idc d) (hx : d.lookup k = some x) (hs : ∀ o i, subscripted e₂ false o i = operate [o, i] (getItem o i) := by intros; rfl) : Op2 c (subscriptTail e₁ e₂) va (.int k) x := by
  rintro wa wb h₁ h₂ A s E Qs _ _ hv ⟨t, rfl⟩ kk
  obtain ⟨a, rfl, m, hm, hz, hD⟩ : ∃ a, wa = .ref a ∧ IDict s.heap a d := by
    rcases hva with rfl | rfl
    · exact hv
    · obtain ⟨a, e, _, q⟩ := hv; exact ⟨a, e, q⟩
  have := hD k
  rw [hx] at this
  cases q : m k with
  | none => rw [q] at this; exact this.elim
  | some w =>
    rw [q] at this
    refine tail_any hm.typeIs slot_dict_getitem.lookup (wpAny_getItem_intMap hm q (kk w _ ⟨Ext.refl _, rfl, rfl⟩ ?_)) (hs _ _)
    cases x <;> first | exact this | exact this.elim
noncomputable def WEp (c : Cx) (f : Fm) (ρ : Loc) : List (Option Expr) → List Expr → (List (V × V) → Prop) → Prop
  | [], [], Q => Q []
  | some k :: ks, v :: vs, Q => WE c f ρ k fun kv => WE c f ρ v fun vv => Pr kv = true ∧ Pr vv = true ∧ WEp c f ρ ks vs fun r => Q ((kv, vv) :: r)
  | _, _, _ => False
noncomputable def P2 (p : V × V) (w : Value × Value) : Prop := PR p.1 w.1 ∧ PR p.2 w.2
theorem wep_pairs {pos : Pos} : ∀ {ks : List (Option Expr)} {vs : List Expr} {Q : List (V × V) → Prop}, WEp c f ρ ks vs Q →
    ∀ (Z : Addr → Obj → Prop) (s : Shared) (E : Value → Shared → Prop) (Qs : List (Value × Value) → Shared → Prop) (m : Str → Option Value) (ad : String → Addr), Rel c f Z ρ s.heap m ad →
    (∀ ps ws s', Q ps → Sx s s' → All2 P2 ps ws → Qs ws s') → wpAny c.M f.A (evalPairs (pairTrees ks vs f.env pos)) Qs E s
  | [], [], Q, h, Z, s, E, Qs, m, ad, R, k => wpAny_pure (k [] [] s h ⟨Ext.refl _, rfl, rfl⟩ trivial)
  | some kx :: ks, v :: vs, Q, h, Z, s, E, Qs, m, ad, R, k => by
    refine pairTrees_cons_walk (h Z s E _ m ad R fun kv wk s₁ hv x₁ r₁ => hv Z s₁ E _ m ad (R.ext x₁.x) fun vv wv s₂ hr x₂ r₂ => ?_)
    obtain ⟨p1, p2, hr⟩ := hr
    exact wep_pairs hr Z s₂ E _ m ad ((R.ext x₁.x).ext x₂.x) fun ps ws s₃ q x₃ al => k ((kv, vv) :: ps) ((wk, wv) :: ws) s₃ q ((x₁.trans x₂).trans x₃) ⟨⟨r₁.pr p1, r₂.pr p2⟩, al⟩
  | [], _ :: _, _, h, _, _, _, _, _, _, _, _ => h.elim
  | none :: _, _, _, h, _, _, _, _, _, _, _, _ => h.elim
  | some _ :: _, [], _, h, _, _, _, _, _, _, _, _ => h.elim
noncomputable abbrev sPairs (D : List (List Nat × Int)) : List (V × V) := D.map fun p => (V.str p.1, V.int p.2)
noncomputable abbrev iPairs (D : List (Int × Int)) : List (V × V) := D.map fun p => (V.int p.1, V.int p.2)
theorem mk_inj {x y : List Nat} (h : (⟨x.toArray⟩ : Str) = ⟨y.toArray⟩) : x = y := by
  have := congrArg (fun s : Str => s.cps.toList) h
  simpa using this
theorem s_pairs : ∀ {D : List (List Nat × Int)} {ws : List (Value × Value)}, All2 P2 (sPairs D) ws → allStrKeys ws = true ∧ (strPairs ws).map (·.1) = D.map (fun p => (⟨p.1.toArray⟩ : Str)) ∧
    ∀ x i, D.lookup x = some i → ∃ t, (strPairs ws).find? (fun kv => kv.1 = ⟨x.toArray⟩) = some (⟨x.toArray⟩, .int i t)
  | [], [], _ => ⟨rfl, rfl, fun _ _ e => nomatch e⟩
  | (y, j) :: D, (w1, w2) :: ws, ⟨⟨⟨t, e1⟩, ⟨u, e2⟩⟩, r⟩ => by
    dsimp only at e1 e2
    subst e1 e2
    obtain ⟨a, b, d⟩ := s_pairs r
    refine ⟨a, by simp [strPairs, b], fun x i e => ?_⟩
    by_cases hxy : x = y
    · subst hxy
      simp [List.lookup] at e
      subst e
      exact ⟨u, by simp [strPairs]⟩
    · have : (x == y) = false := by simpa using hxy
      rw [List.lookup_cons, this] at e
      obtain ⟨t', h'⟩ := d x i e
      refine ⟨t', ?_⟩
      show List.find? _ ((_, _) :: strPairs ws) = _
      rw [List.find?_cons_of_neg (by simpa using fun e => hxy (mk_inj e).symm)]
      exact h'
  | [], _ :: _, x => x.elim
  | _ :: _, [], x => x.elim
theorem nodup_mk {D : List (List Nat × Int)} (h : (D.map (·.1)).Nodup) : (D.map (fun p => (⟨p.1.toArray⟩ : Str))).Nodup := by
  have e : D.map (fun p => (⟨p.1.toArray⟩ : Str)) = (D.map (·.1)).map fun x => ⟨x.toArray⟩ := by rw [List.map_map]; rfl
  rw [e]
  exact List.pairwise_map.mpr (List.Pairwise.imp (fun hab e => hab (mk_inj e)) h)
theorem WE.dsub {ks : List (Option Expr)} {vs : List Expr} {idx : Expr} {p1 p2 : Pos} {Q : V → Prop} (hall : ks.all (·.isSome) = true) (hl : ks.length = vs.length) (h0 : ks ≠ []) (hlen : ks.length ≤ 15)
    (h : WEp c f ρ ks vs fun ps => ∃ D, ps = sPairs D ∧ (D.map (·.1)).Nodup ∧ WE c f ρ idx fun vi => ∃ x i, vi = .str x ∧ D.lookup x = some i ∧ Q (.int i))
    (hs : ∀ o i, subscripted idx false o i = operate [o, i] (getItem o i) := by intros; rfl) : WE c f ρ (.Subscript (.Dict ks vs p1) idx p2) Q :=
  fun Z s E Qs m ad R k => by
    refine Subscript_ (wpAny_Dict_walk (knd := strKind c.prog c.w) hall hl h0 hlen ?_)
    refine wep_pairs h Z _ E _ m ad (R.ext (Ext.push _ _)) fun ps ws s₁ hq x₁ al => ?_
    obtain ⟨D, rfl, hn, hi⟩ := hq
    obtain ⟨a1, a2, a3⟩ := s_pairs al
    have hd0 : s₁.heap.DictOf (strKind c.prog c.w) s.heap.objs.size [] := by
      obtain ⟨o, es, ep, ho, r⟩ := Heap.DictOf.new (knd := strKind c.prog c.w) s.heap
      exact ⟨o, es, ep, x₁.x _ _ ho, r⟩
    refine display_done_str a1 (by rw [a2]; exact nodup_mk hn) hd0 fun h' hd' hs' => ?_
    have x₂ : Ext s.heap h' := fun b o e => hs'.extBut b o (Nat.ne_of_lt (Heap.lt_size e)) (x₁.x _ _ (Heap.get?_push_of_some _ e))
    refine hi Z { s₁ with heap := h', toks := s₁.toks + ws.length } E _ m ad (R.ext x₂) fun vi wi s₃ hq x₃ r₃ => ?_
    obtain ⟨x, i, rfl, hx, q⟩ := hq
    obtain ⟨t, rfl⟩ := r₃
    obtain ⟨t', ht'⟩ := a3 x i hx
    have hm : s₃.heap.MapOf (strKind c.prog c.w) s.heap.objs.size (valueAt (strPairs ws)) := by
      obtain ⟨o, es, ep, ho, r⟩ := hd'.mapOf
      exact ⟨o, es, ep, x₃.x _ _ ho, r⟩
    refine tail_any hm.typeIs slot_dict_getitem.lookup (wpAny_getItem_of (strKind_is c.prog c.w _ t) hm (v := .int i t') (by rw [valueAt, ht']; rfl) (k _ _ _ q ⟨x₂.trans x₃.x, x₃.os.trans x₁.os, x₃.gens.trans x₁.gens⟩ ⟨_, rfl⟩)) (hs _ _)
end
section
open _root_.PySem _root_.PySem.W _root_.PySem.Calls _root_.PyProof.Rows
variable {c : Cx} {f : Fm} {ρ : Loc}
theorem Op.min {v : V} {l : List Int} {k : Int} (e : v.list? = some (intl l)) (hk : k ∈ l) (hm : ∀ x ∈ l, k ≤ x) : Op1 c (fun w => PySem.call (.builtin "min") [w]) v (.int k) := by
  rintro wa h₁ A s E Qs hr _ hv kk
  obtain ⟨a, its, rfl, hl, q⟩ := hv.isList e
  have hI : ∀ i w, its[i]? = some w → ∃ t, w = Value.int (l.getD i 0) t := fun i w e => by
    obtain ⟨x, e1, e2⟩ := q.get' (i := i) (b := w) (by simpa using e)
    unfold intl at e1
    rw [List.getElem?_map] at e1
    cases q : l[i]? with
    | none => rw [q] at e1; cases e1
    | some k => rw [q] at e1; cases e1; obtain ⟨t, rfl⟩ := e2; exact ⟨t, by simp [List.getD_eq_getElem?_getD, q]⟩
  have hlen : its.size = l.length := by have := q.length; simpa [intl] using this.symm
  have hpos : 0 < l.length := List.length_pos_of_mem hk
  refine call_min_walk (wpAny_pyIter_list hl ⟨_, _, _, _, _, _, _, rfl, Walks.list (A := A.in1) hr.handled s.heap.objs.size a (by obtain ⟨o, ho, _⟩ := hl; exact Nat.ne_of_lt (Heap.lt_size ho)) its, ⟨⟨_, Heap.get?_push_size _ rfl, rfl, rfl⟩, hl.push _⟩, fun b hb => ?_, by omega, CmpOf.ints_lt (fun i => l.getD i 0) hI, fun w h' tk hp hkeep => ?_⟩)
  · show b < (s.heap.push _).objs.size
    rw [Heap.size_push]
    rcases List.mem_cons.mp hb with rfl | hb
    · exact Nat.lt_succ_self _
    · rcases List.mem_cons.mp hb with rfl | hb
      · obtain ⟨o, ho, _⟩ := hl; exact Nat.lt_succ_of_lt (Heap.lt_size ho)
      · cases hb
  · obtain ⟨t, rfl⟩ := hI _ _ hp
    obtain ⟨g1, g2⟩ := argBest_lt (fun i => l.getD i 0) (its.size - 1)
    have hin : ∀ i, i < l.length → l.getD i 0 ∈ l := fun i hi => by
      rw [List.getD_eq_getElem?_getD, List.getElem?_eq_getElem hi]; simp
    have e1 : l.getD (argBest (fun i j => decide (l.getD i 0 < l.getD j 0)) (its.size - 1)) 0 = k := by
      refine Int.le_antisymm ?_ (hm _ (hin _ (by omega)))
      obtain ⟨j, hj, ej⟩ := List.getElem_of_mem hk
      have := g2 j (by omega)
      simpa [List.getD_eq_getElem?_getD, List.getElem?_eq_getElem hj, ej] using this
    rw [e1]
    refine kk _ _ ⟨fun b o e => ?_, rfl, rfl⟩ ⟨t, rfl⟩
    refine hkeep b o (fun hm => ?_) (Heap.get?_push_of_some _ e)
    rw [List.mem_singleton.mp hm] at e
    exact absurd (Heap.lt_size e) (Nat.lt_irrefl _)
inductive NamesAre : List Expr → List String → Prop
  | nil : NamesAre [] []
  | cons {y : String} {p : Pos} {es : List Expr} {ys : List String} : NamesAre es ys → NamesAre (.Name (Str.ofString y) p :: es) (y :: ys)
noncomputable def updN (ρ : Loc) : List String → List V → Loc
  | x :: xs, v :: vs => updN (upd ρ x (.val v)) xs vs
  | _, _ => ρ
theorem names_len {es : List Expr} {xs : List String} {env : Env} (h : NamesAre es xs) : (assignEach es env).length = xs.length ∧ (assignEach es env).findIdx? (·.1) = none := by
  induction h with
  | nil => exact ⟨rfl, rfl⟩
  | @cons y p es ys _ ih =>
    obtain ⟨h1, h2⟩ := ih
    have e : assignEach (.Name (Str.ofString y) p :: es) env = (false, assign (.Name (Str.ofString y) p) env) :: assignEach es env := rfl
    rw [e]
    refine ⟨by simp [h1], ?_⟩
    rw [List.findIdx?_cons, h2]; rfl
theorem store_pr {Z : Addr → Obj → Prop} {s : Shared} {m ad} (R : Rel c f Z ρ s.heap m ad) {v : V} {w : Value} (hp : Pr v = true) (hv : PR v w) {x : String} (hk : NameOk f x)
    {E : Value → Shared → Prop} {Q : Unit → Shared → Prop} (h : ∀ s' m' ad', Og s s' → Rel c f Z (upd ρ x (.val v)) s'.heap m' ad' → Q () s') : wpAny c.M f.A (storeName f.env (Str.ofString x) w) Q E s := by
  cases v with
  | none => exact store_rel (v := .none) R (Ext.refl _) hv rfl hk h
  | bool b => exact store_rel (v := .bool b) R (Ext.refl _) hv rfl hk h
  | int b => exact store_rel (v := .int b) R (Ext.refl _) hv rfl hk h
  | str b => exact store_rel (v := .str b) R (Ext.refl _) hv rfl hk h
  | byt b => exact store_rel (v := .byt b) R (Ext.refl _) hv rfl hk h
  | _ => exact absurd hp Bool.false_ne_true
theorem order_pr {es : List Expr} {xs : List String} (hn : NamesAre es xs) : ∀ {vs : List V} {ws : List Value} {ρ : Loc}, (∀ x ∈ xs, NameOk f x) → vs.all Pr = true → All2 PR vs ws → xs.length = vs.length →
    ∀ {Z : Addr → Obj → Prop} {s : Shared} {E : Value → Shared → Prop} {Q : Unit → Shared → Prop} {m ad}, Rel c f Z ρ s.heap m ad → (∀ s' m' ad', Og s s' → Rel c f Z (updN ρ xs vs) s'.heap m' ad' → Q () s') →
      wpAny c.M f.A (assignInOrder ((assignEach es f.env).map (·.2)) ws) Q E s := by
  induction hn with
  | nil =>
    intro vs ws ρ _ _ _ _ Z s E Q m ad R k
    exact wpAny_pure (k s m ad (.refl _) R)
  | @cons y p es ys _ ih =>
    intro vs ws ρ hk hp al hl Z s E Q m ad R k
    cases vs with
    | nil => exact absurd hl (Nat.succ_ne_zero _)
    | cons v vs =>
      cases ws with
      | nil => exact al.elim
      | cons w ws => ?_
      obtain ⟨h1, h2⟩ := al
      rw [List.all_cons, Bool.and_eq_true] at hp
      show wpAny c.M f.A (holding ws (assign (.Name (Str.ofString y) p) f.env w) >>= fun _ => assignInOrder ((assignEach es f.env).map (·.2)) ws) Q E s
      refine wpAny_bind (wpAny_holding (wpAny_assign_Name (store_pr R hp.1 h1 (hk y (.head _)) fun s' m' ad' og R' => ?_)))
      exact ih (fun x hx => hk x (.tail _ hx)) hp.2 h2 (by simpa using hl) R' fun s'' m'' ad'' og' R'' => k s'' m'' ad'' (og.trans og') R''
theorem AsgOk.tup {es : List Expr} {n : Nat} {tp : Pos} {xs : List String} {vs : List V} (hn : NamesAre es xs) (hk : ∀ x ∈ xs, NameOk f x) (hp : vs.all Pr = true) (hl : xs.length = vs.length) :
    AsgOk c f (.Tuple es n tp) (.tup vs) ρ (updN ρ xs vs) :=
  fun Z h₁ s w E Qs m ad R x₁ hv k => by
    obtain ⟨a, its, rfl, ht, al⟩ := hv
    have hsz : its.size = xs.length := by rw [hl, al.length]; simp
    obtain ⟨l1, l2⟩ := names_len (env := f.env) hn
    refine wpAny_assign_Tuple R.room.handled (items := its) (by obtain ⟨o, ho, hc, n, hd⟩ := ht; exact ⟨o, ho, hc, n, hd⟩) (by rw [l1, hsz]) l2 fun h' hs' => ?_
    exact order_pr hn hk hp al hl (s := { s with heap := h' }) ((R.ext x₁).ext fun b o e => hs' b o (Nat.ne_of_lt (Heap.lt_size e)) e) fun s' m' ad' og R' => k s' m' ad' ⟨og.os, og.gens⟩ R'
/-- a, b = e, e no tuple display -/
theorem WS.asgT {es : List Expr} {n : Nat} {tp pos : Pos} {value : Expr} {xs : List String} {Q : Fl → Loc → Prop} (h : WE c f ρ value fun v => ∃ vs, v = .tup vs ∧ vs.all Pr = true ∧ xs.length = vs.length ∧ Q .next (updN ρ xs vs))
    (hn : NamesAre es xs) (hk : ∀ x ∈ xs, NameOk f x)
    (hs : swapsWithSole [.Tuple es n tp] value pos.line f.env = pure false := by rfl) (hw : swappedStores [.Tuple es n tp] value f.env = pure none := by rfl) : WS c f ρ (.Assign [.Tuple es n tp] value pos) Q :=
  fun Z s E Qs m ad R k => by
    refine wpAny_Assign_stores (h Z s E _ m ad R fun v w s₁ hq x₁ hv => ?_) hs hw
    obtain ⟨vs, rfl, hp, hl, q⟩ := hq
    show wpAny c.M f.A (assign (.Tuple es n tp) f.env w) _ _ _
    exact AsgOk.tup hn hk hp hl Z s.heap s₁ w E _ m ad R x₁.x hv fun s' m' ad' og R' => k _ _ _ _ _ _ q rfl (x₁.og.trans og) R'
/-- a, b = x, y -/
theorem WS.asgS {x y : String} {px py : Pos} {n : Nat} {tp pos : Pos} {value : Expr} {Q : Fl → Loc → Prop} (h : WE c f ρ value fun v => ∃ v1 v2, v = .tup [v1, v2] ∧ Pr v1 = true ∧ Pr v2 = true ∧ Q .next (upd (upd ρ y (.val v2)) x (.val v1)))
    (hk1 : NameOk f x) (hk2 : NameOk f y)
    (hs : swapsWithSole [.Tuple [.Name (Str.ofString x) px, .Name (Str.ofString y) py] n tp] value pos.line f.env = pure false := by rfl)
    (hw : swappedStores [.Tuple [.Name (Str.ofString x) px, .Name (Str.ofString y) py] n tp] value f.env = pure (some [Str.ofString x, Str.ofString y])) :
    WS c f ρ (.Assign [.Tuple [.Name (Str.ofString x) px, .Name (Str.ofString y) py] n tp] value pos) Q :=
  fun Z s E Qs m ad R k => by
    show wpAny c.M f.A (exec _ f.env) Qs E s
    rw [exec_Assign_arm, hs]
    refine wpAny_bind (wpAny_standAt (wpAny_bind (wpAny_pure ?_)))
    rw [if_neg Bool.false_ne_true]
    refine wpAny_bind (h Z s E _ m ad R fun v w s₁ hq x₁ hv => ?_)
    obtain ⟨v1, v2, rfl, p1, p2, q⟩ := hq
    rw [hw]
    refine wpAny_bind (wpAny_pure ?_)
    obtain ⟨a, its, rfl, ht, al⟩ := hv
    have hsz : its.size = 2 := by have := al.length; simpa using this.symm
    show wpAny c.M f.A (rule "assign.swapped-stores" >>= fun _ => unpackItems (.ref a) 2 none >>= fun items => assignInOrder ([Str.ofString y, Str.ofString x].map fun n => bindName f.env n) items.reverse >>= fun _ => pure .next) Qs E s₁
    refine wpAny_bind (wpAny_rule (wpAny_bind ?_))
    rw [← hsz]
    refine wpAny_unpackItems_tuple R.room.handled (items := its) (by obtain ⟨o, ho, hc, n, hd⟩ := ht; exact ⟨o, ho, hc, n, hd⟩) fun h' hs' => ?_
    have R' := (R.ext x₁.x).ext (h' := h') fun b o e => hs' b o (Nat.ne_of_lt (Heap.lt_size e)) e
    generalize its.toList = il at al
    cases il with
    | nil => exact al.elim
    | cons w1 il =>
      cases il with
      | nil => exact al.2.elim
      | cons w2 il => ?_
      cases il with
      | cons w3 il => exact al.2.2.elim
      | nil => ?_
      obtain ⟨r1, r2, _⟩ := al
      show wpAny c.M f.A ((holding [w1] (bindName f.env (Str.ofString y) w2) >>= fun _ => (holding [] (bindName f.env (Str.ofString x) w1) >>= fun _ => pure ())) >>= fun _ => pure .next) Qs E { s₁ with heap := h' }
      refine wpAny_bind (wpAny_bind (wpAny_holding (wpAny_bindName (store_pr (s := { s₁ with heap := h' }) R' p2 r2 hk2 fun s' m' ad' og₂ R₂ => ?_))))
      refine wpAny_bind (wpAny_holding (wpAny_bindName (store_pr R₂ p1 r1 hk1 fun s'' m'' ad'' og₃ R₃ => ?_)))
      exact wpAny_pure (wpAny_pure (k _ _ _ _ _ _ q rfl ⟨(og₂.trans og₃).os.trans x₁.os, (og₂.trans og₃).gens.trans x₁.gens⟩ R₃))
end
open _root_.PySem _root_.PySem.W _root_.PySem.Calls _root_.PyProof.Rows
local macro_rules | `(tactic| walk_at "lk") => `(tactic| first | assumption | exact upd_self | (refine (upd_ne (by decide)).trans ?_; walk_at "lk"))
local macro_rules | `(tactic| walk_at "nk") => `(tactic| first | exact .inl (by kernel_rfl) | exact .inr ⟨by kernel_rfl, by kernel_rfl⟩)
local macro_rules | `(tactic| walk_at "op") => `(tactic| first
  | exact Op.add _ _ | exact Op.sub _ _ | exact Op.eq _ _ | exact Op.ne _ _ | exact Op.lt _ _ | exact Op.gt _ _ | exact Op.iadd _ _ | exact Op.isub _ _ | exact Op.neg _
  | exact Op.notinL rfl | exact Op.inL rfl | exact Op.tb _ | exact Op.ti _ | exact Op.eqS _ _ | exact Op.pow106)
local macro_rules | `(tactic| walk_at "we") => `(tactic| (first
  | refine WE.int ?_ | refine WE.str ?_ | refine WE.true_ ?_ | refine WE.none_ ?_ | refine WE.name (by walk_at "lk") ?_ | refine WE.bin ?_ | refine WE.cmp ?_ | refine WE.un ?_
  | refine WE.list ?_ | refine WE.tup ?_ | refine WT.not ?_ | refine WT.bool ?_ | refine WT.cmp ?_ | refine WAll.and_cons ?_ | refine WAll.and_nil ?_ | refine WAll.or_cons ?_ | refine WAll.or_nil ?_
  | refine ⟨_, by walk_at "op", ?_⟩ | refine WT.value ?_
  | (refine WB.cons ?_) | refine WB.nil ?_ | refine WS.ret ?_ | refine WS.ite ?_ | refine WS.pass ?_ | refine WS.brk ?_ | refine WS.cont ?_
  | refine WS.asg ?_ (by walk_at "nk")))
local macro_rules | `(tactic| walk_at "mk") => `(tactic| first | assumption | rfl | exact if_pos rfl | (refine (if_neg (by decide)).trans ?_; walk_at "mk"))
section
open _root_.PySem _root_.PySem.W _root_.PySem.Calls _root_.PyProof.Rows
noncomputable def sides (q : Int) : List Int := [q + 100, q + 1, q - 100, q - 1]
noncomputable def freeStep (sq free : List Int) (x : Int) : List Int := if x ∈ sq ∨ x ∈ free then free else free ++ [x]
noncomputable def freeSq (sq free : List Int) (q : Int) : List Int := (sides q).foldl (freeStep sq) free
noncomputable def freeOf (sq : List Int) : List Int := sq.foldl (freeSq sq) []
noncomputable def grow (sq : List Int) (d : Int) : List Int := sq ++ [(freeOf sq).getD (d.fmod (freeOf sq).length).toNat 0]
noncomputable def grown (ds : List Int) : List Int := ds.foldl grow [707]
theorem intl_get {l : List Int} {i : Nat} {v : V} (h : (intl l)[i]? = some v) : ∃ k, l[i]? = some k ∧ v = .int k := by
  unfold intl at h
  rw [List.getElem?_map] at h
  cases q : l[i]? with
  | none => rw [q] at h; cases h
  | some k => rw [q] at h; cases h; exact ⟨k, rfl, rfl⟩
theorem freeStep_len (sq fr : List Int) (x : Int) : (freeStep sq fr x).length ≤ fr.length + 1 := by unfold freeStep; split <;> simp
theorem freeSteps_len (sq : List Int) : ∀ (l fr : List Int), (l.foldl (freeStep sq) fr).length ≤ fr.length + l.length
  | [], fr => by simp
  | x :: l, fr => by
    have := freeSteps_len sq l (freeStep sq fr x)
    have := freeStep_len sq fr x
    simp only [List.foldl_cons, List.length_cons]; omega
theorem freeSqs_len (sq : List Int) : ∀ (l fr : List Int), (l.foldl (freeSq sq) fr).length ≤ fr.length + 4 * l.length
  | [], fr => by simp
  | x :: l, fr => by
    have := freeSqs_len sq l (freeSq sq fr x)
    have h2 : (freeSq sq fr x).length ≤ fr.length + 4 := freeSteps_len sq (sides x) fr
    simp only [List.foldl_cons, List.length_cons]; omega
theorem grow_len : ∀ (l sq : List Int), (l.foldl grow sq).length = sq.length + l.length
  | [], sq => by simp
  | x :: l, sq => by
    have := grow_len l (grow sq x)
    have h2 : (grow sq x).length = sq.length + 1 := by simp [grow]
    simp only [List.foldl_cons, List.length_cons]; omega
theorem freeSteps_mem (sq : List Int) : ∀ (l fr : List Int) (x : Int), (x ∈ fr ∨ (x ∈ l ∧ x ∉ sq)) → x ∈ l.foldl (freeStep sq) fr
  | [], fr, x, h => by simpa using h
  | y :: l, fr, x, h => by
    simp only [List.foldl_cons]
    refine freeSteps_mem sq l _ x ?_
    unfold freeStep
    rcases h with h | ⟨h, hn⟩
    · left; split <;> simp [h]
    · rcases List.mem_cons.mp h with rfl | h
      · left
        split
        · rename_i hh; exact hh.resolve_left hn
        · simp
      · exact .inr ⟨h, hn⟩
theorem freeSqs_mem (sq : List Int) : ∀ (l fr : List Int) (x : Int), (x ∈ fr ∨ ∃ q ∈ l, x ∈ sides q ∧ x ∉ sq) → x ∈ l.foldl (freeSq sq) fr
  | [], fr, x, h => by simpa using h
  | y :: l, fr, x, h => by
    simp only [List.foldl_cons]
    refine freeSqs_mem sq l _ x ?_
    rcases h with h | ⟨q, hq, h, hn⟩
    · exact .inl (freeSteps_mem sq _ _ _ (.inl h))
    · rcases List.mem_cons.mp hq with rfl | hq
      · exact .inl (freeSteps_mem sq _ _ _ (.inr ⟨h, hn⟩))
      · exact .inr ⟨q, hq, h, hn⟩
theorem has_max : ∀ (l : List Int), l ≠ [] → ∃ m ∈ l, ∀ x ∈ l, x ≤ m
  | [x], _ => ⟨x, by simp, by simp⟩
  | x :: y :: l, _ => by
    obtain ⟨m, hm, h⟩ := has_max (y :: l) (by simp)
    by_cases hx : x ≤ m
    · exact ⟨m, .tail _ hm, fun z hz => by rcases List.mem_cons.mp hz with rfl | hz; exact hx; exact h z hz⟩
    · exact ⟨x, .head _, fun z hz => by rcases List.mem_cons.mp hz with rfl | hz; exact Int.le_refl _; have := h z hz; omega⟩
theorem freeOf_ne {sq : List Int} (h : sq ≠ []) : 0 < (freeOf sq).length := by
  obtain ⟨m, hm, hmax⟩ := has_max sq h
  have : m + 100 ∈ freeOf sq := freeSqs_mem sq sq [] _ (.inr ⟨m, hm, by simp [sides], fun hx => by have := hmax _ hx; omega⟩)
  exact List.length_pos_of_mem this
theorem intl_append (l : List Int) (x : Int) : intl l ++ [.int x] = intl (l ++ [x]) := by simp [intl]
noncomputable abbrev GrA (ds : List Int) (i : Nat) (ρ : Loc) : Prop :=
  ρ "squares" = some (.own (.list (intl ((ds.take i).foldl grow [707]))))
inductive GrB (a : Addr) (sq : List Int) (d : Int) (j : Nat) (ρ : Loc) : Prop
  | mk (g1 : ρ "squares" = some (.at a (intl sq))) (g2 : ρ "free" = some (.own (.list (intl ((sq.take j).foldl (freeSq sq) []))))) (g3 : ρ "draw" = some (.val (.int d)))
inductive GrC (a : Addr) (sq fr : List Int) (q d : Int) (k : Nat) (ρ : Loc) : Prop
  | mk (g1 : ρ "squares" = some (.at a (intl sq))) (g2 : ρ "free" = some (.own (.list (intl (((sides q).take k).foldl (freeStep sq) fr))))) (g3 : ρ "draw" = some (.val (.int d)))
set_option maxRecDepth 100000 in
theorem grown_spec {c : Cx} (H : Here c) (n : Nat) (ds : List Int) (hd : ds.length ≤ 5) : FS c (n + 1) 199 [.lst (intl ds)] fun v => v = .new (intl (grown ds)) := by
  refine' FS.introC (xs := ["draws"]) H.ok ?ho ?hcd ?hbind ?hx ?hxl rfl ?h ?hco ?hgen ?hk
  case ho => rw [H.K]; with_unfolding_all rfl
  case hcd => rw [H.K]; kernel_rfl
  case hbind =>
    intro ws hw
    obtain ⟨w, rfl⟩ := len_one hw
    with_unfolding_all rfl
  case hx => decide
  case hxl => decide
  case hco => rfl
  case hgen => rfl
  case hk => rfl
  case h =>
    intro L qual fa code A he
    refine WB.cons (WS.asg ?_ (by walk_at "nk"))
    refine WE.list (WE.int ⟨rfl, by decide, _, rfl, ?_⟩)
    refine WB.cons (WS.for_arg (l := intl ds) (by walk_at "lk") ?_)
    refine ⟨GrA ds, upd_self, ?_, ?_⟩
    · intro i v ρ hi hρ
      obtain ⟨d, hdi, rfl⟩ := intl_get hi
      have hil : i < ds.length := (List.getElem?_eq_some_iff.mp hdi).1
      change ρ "squares" = _ at hρ
      generalize hsq : (ds.take i).foldl grow [707] = sq at hρ
      have hsl : sq.length = 1 + i := by rw [← hsq, grow_len]; simp; omega
      have hne : sq ≠ [] := by intro e; rw [e] at hsl; simp at hsl; omega
      refine ⟨_, AsgOk.name rfl (by walk_at "nk"), ?_⟩
      refine WB.cons (WS.asg ?_ (by walk_at "nk"))
      refine WE.list ⟨rfl, by decide, _, rfl, ?_⟩
      refine WB.cons (WS.for_own (l := intl sq) (by walk_at "lk") fun a => ?_)
      refine ⟨GrB a sq d, ⟨upd_self, by walk_at "lk", by walk_at "lk"⟩, ?_, ?_⟩
      · rintro j v ρ hj ⟨h1, h2, h3⟩
        obtain ⟨q, hqj, rfl⟩ := intl_get hj
        have hjl : j < sq.length := (List.getElem?_eq_some_iff.mp hqj).1
        generalize hfr : (sq.take j).foldl (freeSq sq) [] = fr at h2
        have hfl : fr.length ≤ 4 * j := by
          have := freeSqs_len sq (sq.take j) []
          rw [hfr] at this; simp at this; omega
        refine ⟨_, AsgOk.name rfl (by walk_at "nk"), ?_⟩
        refine WB.cons (WS.for_ (WE.tup ?_))
        repeat walk_at "we"
        refine ⟨rfl, by simp, rfl, intl (sides q), rfl, ?_⟩
        refine ⟨GrC a sq fr q d, ⟨by walk_at "lk", by walk_at "lk", by walk_at "lk"⟩, ?_, ?_⟩
        · rintro k v ρ hk ⟨h1, h2, h3⟩
          obtain ⟨x, hxk, rfl⟩ := intl_get hk
          have hkl : k < 4 := (List.getElem?_eq_some_iff.mp hxk).1
          generalize hfr2 : ((sides q).take k).foldl (freeStep sq) fr = fr2 at h2
          have hfl2 : fr2.length ≤ fr.length + k := by
            have := freeSteps_len sq ((sides q).take k) fr
            rw [hfr2] at this; simp [sides] at this; omega
          refine ⟨_, AsgOk.name rfl (by walk_at "nk"), ?_⟩
          refine WB.cons (WS.ite (WT.bool (WAll.and_cons ?_)))
          repeat walk_at "we"
          by_cases hm : x ∈ sq
          · rw [if_neg (by simp [hm]), if_neg (by simp)]
            refine WB.nil (WB.nil ⟨by walk_at "lk", ?_, by walk_at "lk"⟩)
            rw [PyProof.Rows.foldl_take_succ (freeStep sq) fr hxk, hfr2, freeStep, if_pos (.inl hm)]; walk_at "lk"
          · rw [if_pos (by simp [hm])]
            repeat walk_at "we"
            by_cases hm2 : x ∈ fr2
            · rw [if_neg (by simp [hm2]), if_neg (by simp)]
              refine WB.nil (WB.nil ⟨by walk_at "lk", ?_, by walk_at "lk"⟩)
              rw [PyProof.Rows.foldl_take_succ (freeStep sq) fr hxk, hfr2, freeStep, if_pos (.inr hm2)]; walk_at "lk"
            · rw [if_pos (by simp [hm2])]
              refine WAll.and_nil ?_
              rw [if_pos rfl]
              refine WB.cons (WS.append (l := intl fr2) (by walk_at "lk") (by simp [intl]; omega) (WE.name (by walk_at "lk") ⟨rfl, ?_⟩))
              refine WB.nil (WB.nil ⟨by walk_at "lk", ?_, by walk_at "lk"⟩)
              rw [PyProof.Rows.foldl_take_succ (freeStep sq) fr hxk, hfr2, freeStep, if_neg (by simp [hm, hm2]), ← intl_append]; exact upd_self
        · rintro ρ ⟨h1, h2, h3⟩
          refine WB.nil (WB.nil ⟨h1, ?_, h3⟩)
          rw [PyProof.Rows.foldl_take_succ (freeSq sq) [] hqj, hfr]
          exact h2
      · rintro ρ ⟨h1, h2, h3⟩
        refine WB.nil ⟨h1, ?_⟩
        have e : (sq.take (intl sq).length).foldl (freeSq sq) [] = freeOf sq := by
          have : (intl sq).length = sq.length := by simp [intl]
          rw [this, List.take_length]; rfl
        rw [e] at h2
        have hlen := freeOf_ne hne
        have hl2 : (freeOf sq).length ≤ 100 := by have := freeSqs_len sq sq []; unfold freeOf; simp at this; omega
        have hm1 : 0 ≤ d.fmod (freeOf sq).length := Int.fmod_nonneg_of_pos _ (by omega)
        have hm2 : d.fmod (freeOf sq).length < (freeOf sq).length := Int.fmod_lt_of_pos _ (by omega)
        refine WB.cons (WS.append (l := intl sq) upd_self (by simp [intl]; omega) (WE.sub (WE.name (by walk_at "lk") (WE.bin (WE.name (by walk_at "lk") (WE.bic (bi_len H) H.ok (by kernel_rfl) (WE.name (by walk_at "lk") ?_)))))))
        refine ⟨_, OpN.one (Op.len rfl (by simp [intl]; omega)), ?_⟩
        have e3 : ((intl (freeOf sq)).length : Int) = (freeOf sq).length := by simp [intl]
        rw [e3]
        refine ⟨_, Op.mod (by omega), _, Op.item (l := intl (freeOf sq)) (x := .int ((freeOf sq).getD (d.fmod (freeOf sq).length).toNat 0)) rfl hm1 ?_ (by omega), rfl, ?_⟩
        · simp only [intl, List.getElem?_map, List.getD_eq_getElem?_getD]
          rw [List.getElem?_eq_getElem (by omega)]; simp
        · refine WB.nil ?_
          show _ = some (S.own (O.list (intl (List.foldl grow [707] (List.take (i + 1) ds)))))
          rw [PyProof.Rows.foldl_take_succ grow [707] hdi, hsq, grow, ← intl_append]
          exact upd_self
    · intro ρ hρ
      have e : (ds.take (intl ds).length).foldl grow [707] = grown ds := by
        have : (intl ds).length = ds.length := by simp [intl]
        rw [this, List.take_length]; rfl
      change ρ "squares" = _ at hρ
      rw [e] at hρ
      exact WB.nil (WB.cons (WS.ret_own hρ rfl))
end
section
open _root_.PySem _root_.PySem.W _root_.PySem.Calls _root_.PyProof.Rows
set_option linter.unusedVariables false
set_option linter.deprecated false
variable {c : Cx} {f : Fm} {ρ : Loc}
theorem WE.dict0 {pos : Pos} {Q : V → Prop} (h : Q (.idc [])) : WE c f ρ (.Dict [] [] pos) Q :=
  fun Z s E Qs m ad R k => wpAny_Dict_empty (k _ _ _ h ⟨Ext.push _ _, rfl, rfl⟩ ⟨_, rfl, fresh_size _, _, Heap.IntMap.new _, Heap.DictLe.new _, fun _ => trivial⟩)
theorem WE.neg {i : Int} {k : Nat} {p pos : Pos} {Q : V → Prop} (h : Q (.int (-i))) : WE c f ρ (.UnaryOp .USub (.Constant (.int i) k p) pos) Q :=
  WE.un (WE.int ⟨_, Op.neg i, h⟩)
noncomputable abbrev Ways := List (Int × List Nat)
noncomputable def wv (d : Ways) : List (Int × V) := d.map fun p => (p.1, V.str p.2)
noncomputable def wput (sq : List Int) (near : Int) (at_ : Int) (s : List Nat) (d : Ways) : Ways := if near ∈ sq then d else (at_, s) :: d
noncomputable def wayStep (sq : List Int) (d : Ways) (q : Int) : Ways :=
  wput sq (q - 100) (q + 1) [124] (wput sq (q + 1) (q + 101) [60] (wput sq (q + 100) (q + 100) [94] (wput sq (q - 1) q [62] d)))
noncomputable def waysOf (sq : List Int) : Ways := sq.foldl (wayStep sq) []
noncomputable def disps : List (List Nat × Int) := [([62], 100), ([94], 1), ([60], -100), ([124], -1)]
noncomputable def trace (d : Ways) (start : Int) : Nat → Int → List Nat → Option (List Nat)
  | 0, _, _ => none
  | k + 1, p, t => if p = start ∧ t ≠ [] then some t else match d.lookup p with
    | some s => match disps.lookup s with
      | some x => trace d start k (p + x) (t ++ s)
      | none => none
    | none => none
theorem wv_lookup {d : Ways} {k : Int} {s : List Nat} (h : d.lookup k = some s) : (wv d).lookup k = some (.str s) := by
  induction d with
  | nil => cases h
  | cons p r ih =>
    obtain ⟨a, b⟩ := p
    simp only [wv, List.map_cons, List.lookup_cons] at h ⊢
    split at h
    · cases h; rfl
    · exact ih h
theorem wput_len (sq near a s) (d : Ways) : (wput sq near a s d).length ≤ d.length + 1 := by unfold wput; split <;> simp
theorem wayStep_len (sq) (d : Ways) (q) : (wayStep sq d q).length ≤ d.length + 4 := by
  unfold wayStep
  have h1 := wput_len sq (q - 1) q [62] d
  have h2 := wput_len sq (q + 100) (q + 100) [94] (wput sq (q - 1) q [62] d)
  have h3 := wput_len sq (q + 1) (q + 101) [60] (wput sq (q + 100) (q + 100) [94] (wput sq (q - 1) q [62] d))
  have h4 := wput_len sq (q - 100) (q + 1) [124] (wput sq (q + 1) (q + 101) [60] (wput sq (q + 100) (q + 100) [94] (wput sq (q - 1) q [62] d)))
  omega
theorem ways_len (sq) : ∀ (l : List Int) (d : Ways), (l.foldl (wayStep sq) d).length ≤ d.length + 4 * l.length
  | [], d => by simp
  | x :: l, d => by
    have := ways_len sq l (wayStep sq d x)
    have := wayStep_len sq d x
    simp only [List.foldl_cons, List.length_cons]; omega
theorem intl_getB {l : List Int} {i : Nat} {v : V} (h : (intl l)[i]? = some v) : ∃ k, l[i]? = some k ∧ v = .int k := by
  unfold intl at h
  rw [List.getElem?_map] at h
  cases q : l[i]? with
  | none => rw [q] at h; cases h
  | some k => rw [q] at h; cases h; exact ⟨k, rfl, rfl⟩
/-- one «if near not in squares: ways[at] = sign» -/
theorem way_if {near at_ : Expr} {sign : Str} {kk : Nat} {sq : List Int} {q a b : Int} {d : Ways} {p1 p2 p3 p4 p5 p6 p7 : Pos} {Q : Fl → Loc → Prop} (h1 : ρ "ways" = some (.own (.dict (wv d)))) (hl : d.length ≤ 100000)
    (h2 : ρ "squares" = some (.val (.lst (intl sq)))) (hq : ρ "square" = some (.val (.int q)))
    (hn : ∀ {Q : V → Prop}, Q (.int a) → WE c f ρ near Q) (ha : ∀ {Q : V → Prop}, Q (.int b) → WE c f ρ at_ Q)
    (h : ∀ ρ', ρ' "ways" = some (.own (.dict (wv (wput sq a b sign.cps.toList d)))) → ρ' "squares" = some (.val (.lst (intl sq))) → ρ' "square" = some (.val (.int q)) → Q .next ρ') :
    WS c f ρ (.If (.Compare near [.NotIn] [.Name (Str.ofString "squares") p1] p2) [.Assign [.Subscript (.Name (Str.ofString "ways") p3) at_ p4] (.Constant (.str sign) kk p5) p6] [] p7) Q := by
  refine WS.ite (WT.cmp (hn (WE.name h2 ⟨_, Op.notinL rfl, ?_⟩)))
  by_cases hm : a ∈ sq
  · rw [if_neg (by simp [hm])]
    refine WB.nil (h ρ ?_ h2 hq)
    rw [wput, if_pos hm]; exact h1
  · rw [if_pos (by simp [hm])]
    refine WB.cons (WS.setitem_dict h1 (by simpa [wv] using hl) (WE.str (ha ⟨b, rfl, rfl, WB.nil (h _ ?_ ?_ ?_)⟩)))
    · rw [wput, if_neg hm]; exact upd_self
    · exact (upd_ne (by decide)).trans h2
    · exact (upd_ne (by decide)).trans hq
inductive BoB (d : List (Int × List Nat)) (m : Int) (t : List Nat) (N : Nat) (k : Nat) (ρ : Loc) : Prop
  | mk (p : Int) (t' : List Nat) (g1 : ρ "ways" = some (.own (.dict (wv d)))) (g2 : ρ "start" = some (.val (.int m))) (g3 : ρ "place" = some (.val (.int p))) (g4 : ρ "text" = some (.val (.str t'))) (g5 : trace d m k p t' = some t) (g6 : t'.length + k ≤ N)
inductive BoA (sq : List Int) (i : Nat) (ρ : Loc) : Prop
  | mk (g1 : ρ "squares" = some (.val (.lst (intl sq)))) (g2 : ρ "ways" = some (.own (.dict (wv ((sq.take i).foldl (wayStep sq) [])))))
set_option maxRecDepth 100000 in
theorem border_spec {c : Cx} (H : Here c) (n : Nat) (sq : List Int) (m : Int) (N : Nat) (t : List Nat) (hs : sq.length ≤ 100) (hN : N ≤ 1000) (hm : m ∈ sq) (hmin : ∀ x ∈ sq, m ≤ x) (ht : trace (waysOf sq) m N m [] = some t) :
    FS c (n + 1) 206 [.lst (intl sq)] fun v => v = .str t := by
  refine' FS.introC (xs := ["squares"]) H.ok ?ho ?hcd ?hbind ?hx ?hxl rfl ?h ?hco ?hgen ?hk
  case ho => rw [H.K]; with_unfolding_all rfl
  case hcd => rw [H.K]; kernel_rfl
  case hbind =>
    intro ws hw
    obtain ⟨w, rfl⟩ := len_one hw
    with_unfolding_all rfl
  case hx => decide
  case hxl => decide
  case hco => rfl
  case hgen => rfl
  case hk => rfl
  case h =>
    intro L qual fa code A he
    refine WB.cons (WS.asg ?_ (by walk_at "nk"))
    refine WE.dict0 ⟨_, rfl, ?_⟩
    refine WB.cons (WS.for_arg (l := intl sq) (by walk_at "lk") ?_)
    refine ⟨BoA sq, ⟨by walk_at "lk", upd_self⟩, ?_, ?_⟩
    · rintro i v ρ hi ⟨h1, h2⟩
      obtain ⟨q, hqi, rfl⟩ := intl_getB hi
      generalize hd : (sq.take i).foldl (wayStep sq) [] = d at h2
      have hdl : d.length ≤ 4 * i := by
        have := ways_len sq (sq.take i) []
        rw [hd] at this; simp at this; omega
      have hil : i < sq.length := (List.getElem?_eq_some_iff.mp hqi).1
      refine ⟨_, AsgOk.name rfl (by walk_at "nk"), ?_⟩
      refine WB.cons (way_if (d := d) (q := q) (a := q - 1) (b := q) (by walk_at "lk") (by omega) (by walk_at "lk") (by walk_at "lk") (fun h => ?_) (fun h => ?_) fun ρ h1 h2 h3 => ?_)
      · repeat walk_at "we"
        exact h
      · exact WE.name (st := .val (.int q)) (by walk_at "lk") h
      generalize hd1 : wput sq (q - 1) q _ d = d1 at h1
      have hl1 := wput_len sq (q - 1) q [62] d
      change wput sq (q - 1) q [62] d = d1 at hd1
      rw [hd1] at hl1
      refine WB.cons (way_if (d := d1) (q := q) (a := q + 100) (b := q + 100) h1 (by omega) h2 h3 (fun h => ?_) (fun h => ?_) fun ρ h1 h2 h3 => ?_)
      · repeat walk_at "we"
        exact h
      · repeat walk_at "we"
        exact h
      generalize hd2 : wput sq (q + 100) (q + 100) _ d1 = d2 at h1
      have hl2 := wput_len sq (q + 100) (q + 100) [94] d1
      change wput sq (q + 100) (q + 100) [94] d1 = d2 at hd2
      rw [hd2] at hl2
      refine WB.cons (way_if (d := d2) (q := q) (a := q + 1) (b := q + 101) h1 (by omega) h2 h3 (fun h => ?_) (fun h => ?_) fun ρ h1 h2 h3 => ?_)
      · repeat walk_at "we"
        exact h
      · repeat walk_at "we"
        exact h
      generalize hd3 : wput sq (q + 1) (q + 101) _ d2 = d3 at h1
      have hl3 := wput_len sq (q + 1) (q + 101) [60] d2
      change wput sq (q + 1) (q + 101) [60] d2 = d3 at hd3
      rw [hd3] at hl3
      refine WB.cons (way_if (d := d3) (q := q) (a := q - 100) (b := q + 1) h1 (by omega) h2 h3 (fun h => ?_) (fun h => ?_) fun ρ h1 h2 h3 => ?_)
      · repeat walk_at "we"
        exact h
      · repeat walk_at "we"
        exact h
      refine WB.nil ⟨h2, ?_⟩
      rw [PyProof.Rows.foldl_take_succ (wayStep sq) [] hqi, hd, wayStep, hd1, hd2, hd3]; exact h1
    · rintro ρ ⟨h1, h2⟩
      have e : (sq.take (intl sq).length).foldl (wayStep sq) [] = waysOf sq := by
        have : (intl sq).length = sq.length := by simp [intl]
        rw [this, List.take_length]; rfl
      rw [e] at h2
      generalize waysOf sq = d at h2 ht
      refine WB.nil ?_
      refine WB.cons (WS.asg ?_ (by walk_at "nk"))
      refine WE.bic (bi_min H) H.ok (by kernel_rfl) (WE.name (by walk_at "lk") ⟨_, OpN.one (Op.min rfl hm hmin), _, rfl, ?_⟩)
      refine WB.cons (WS.asgS ?_ (by walk_at "nk") (by walk_at "nk") (hw := ?hw))
      case hw => kernel_rfl
      refine WE.tup ?_
      repeat walk_at "we"
      refine ⟨rfl, by simp, _, _, rfl, rfl, rfl, ?_⟩
      refine WB.cons (WS.while_ (BoB d m t N) N ⟨m, [], by walk_at "lk", by walk_at "lk", by walk_at "lk", by walk_at "lk", ht, by simp⟩ ?_)
      rintro k ρ ⟨p, t', g1, g2, g3, g4, g5, g6⟩
      cases k with
      | zero => cases g5
      | succ k =>
        refine WT.mono (Q := fun b => b = !(decide (p = m ∧ t' ≠ []))) ?_ ?_
        · refine WT.bool (WAll.or_cons (WT.cmp (WE.name g3 (WE.name g2 ⟨_, Op.ne _ _, ?_⟩))))
          by_cases hp : p = m
          · rw [if_neg (by simp [hp])]
            refine WAll.or_cons (WT.not (WT.value (WE.name g4 ⟨_, Op.ts (by omega), ?_⟩)))
            cases t' with
            | nil => simp
            | cons a l => 
              simp only [List.isEmpty_cons, Bool.not_false, Bool.not_true, Bool.false_eq_true, if_false]
              exact WAll.or_nil (by simp [hp])
          · rw [if_pos (by simp [hp])]; simp [hp]
        · rintro b rfl
          by_cases hq : p = m ∧ t' ≠ []
          · rw [trace, if_pos hq] at g5
            cases g5
            rw [if_neg (by simp [hq.1, hq.2])]
            refine WB.nil (WB.cons (WS.ret (WE.name g4 rfl)))
          · rw [if_pos (by simp only [hq, decide_false, Bool.not_false])]
            rw [trace, if_neg hq] at g5
            cases hl : d.lookup p with
            | none => rw [hl] at g5; cases g5
            | some sg =>
              rw [hl] at g5
              dsimp only at g5
              cases hx : disps.lookup sg with
              | none => rw [hx] at g5; cases g5
              | some x =>
                rw [hx] at g5
                dsimp only at g5
                have hsl : sg.length ≤ 1 := by
                  have : ∀ (D : List (List Nat × Int)), (∀ p ∈ D, p.1.length ≤ 1) → ∀ s x, D.lookup s = some x → s.length ≤ 1 := by
                    intro D
                    induction D with
                    | nil => intro _ s x e; cases e
                    | cons p r ih =>
                      obtain ⟨a, b⟩ := p
                      intro h s x e
                      rw [List.lookup_cons] at e
                      split at e
                      · rename_i e1; rw [beq_iff_eq.mp e1]; exact h (a, b) (.head _)
                      · exact ih (fun p hp => h p (.tail _ hp)) s x e
                  exact this disps (by decide) sg x hx
                refine WB.cons (WS.asg (WE.sub (WE.name g1 (WE.name g3 ⟨_, Op.itemD (.inl rfl) (wv_lookup hl), _, rfl, ?_⟩))) (by walk_at "nk"))
                refine WB.cons (WS.aug (st₀ := .val (.str t')) (by walk_at "lk") (WE.name (st := .val (.str sg)) (by walk_at "lk") ⟨_, _, Op.iaddS (by omega), rfl, ?_⟩) (by walk_at "nk"))
                refine WB.cons (WS.aug (st₀ := .val (.int p)) (by walk_at "lk") ?_ (by walk_at "nk"))
                refine WE.dsub ?a1 ?a2 ?a3 ?a4 ?_
                case a1 => rfl
                case a2 => rfl
                case a3 => exact fun e => nomatch e
                case a4 => exact (by decide : 4 ≤ 15)
                refine WE.str (WE.int ⟨rfl, rfl, ?_⟩)
                refine WE.str (WE.int ⟨rfl, rfl, ?_⟩)
                refine WE.str (WE.neg ⟨rfl, rfl, ?_⟩)
                refine WE.str (WE.neg ⟨rfl, rfl, ?_⟩)
                refine ⟨disps, rfl, by decide, ?_⟩
                refine WE.name (st := .val (.str sg)) (by walk_at "lk") ⟨_, _, rfl, hx, _, _, Op.iadd _ _, rfl, ?_⟩
                refine WB.nil ⟨k, by omega, p + x, t' ++ sg, by walk_at "lk", by walk_at "lk", by walk_at "lk", by walk_at "lk", g5, ?_⟩
                rw [List.length_append]; omega
end
section
open _root_.PySem _root_.PySem.W _root_.PySem.Calls _root_.PyProof.Rows _root_.PySem.Builtin _root_.PySem.Builtin.ObjectAttr
set_option linter.unusedVariables false
set_option linter.deprecated false
set_option maxRecDepth 100000
section
variable {prog : Program} {w : World} {A : Around} {E : Value → Shared → Prop} {s : Shared} {K : Frag} {x C : Addr} {ox : Obj} {od : Option Obj} {name : Str}
theorem refuse_list (self : Value) (C : Addr) : refuseLoop self "__setattr__" [.ref C, .type "list", .type "object"] = pure () := by
  rw [refuseLoop_ref]
  kernel_rfl
/-- a dict that tells of a name has no key that might be that name unseen -/
theorem known_plain {od : Obj} (h : (lookIn name od).isSome = true) : ∃ es n, od.data = .dict es n ∧ aRefKeyMayBeTheName name es = false := by
  unfold lookIn at h
  split at h
  · rename_i es n q
    refine ⟨es, n, q, ?_⟩
    rw [aRefKeyMayBeTheName_at, ← Array.any_toList, ← Array.any_toList]
    rcases Bool.eq_false_or_eq_true (es.toList.any (·.refKey)) with r | r
    · rcases f : es.toList.find? (·.key.isStr name) with _ | e
      · rw [f] at h; simp [r] at h
      · rw [List.any_eq_true.mpr ⟨e, List.mem_of_find?_eq_some f, List.find?_some f⟩]; rfl
    · rw [r, Bool.and_false]
  · cases h
theorem osa_inst {od od' : Obj} {dx : Addr} {v : Value} {tk : Tok} {es : List DictEntry} {n : Nat} {cd : ClassData} {R : Result → Shared → Prop} (X : K.In s.heap)
    (I : InstAt s.heap x ox C (some od)) (hd : ox.dict = some dx) (hc : clsIn K C = some cd) (hr : refuseLoop (.ref x) "__setattr__" cd.mro = pure ()) (ho : cd.mro.contains (.type "object") = true)
    (ht : takerIn K C name = some none) (hh : cd.hasDict = true) (hl : (lookIn name od).isSome = true)
    (e : Obj.putName name (PyData.keyHash w.params name) (.str name s.toks) v od = od') (e' : od'.data = .dict es.toArray n) (hz : es.length ≤ 1000)
    (h : ∀ h', Heap.SameBut dx s.heap h' → h'.get? dx = some od' → R (.ok (.ret .none)) { s with heap := h', toks := s.toks + 1 }) :
    codeAny (model prog w) A (.call (.builtin "object.__setattr__") ⟨[.ref x, .str name tk, v], []⟩) R s := by
  have SF := PySem.F.store_object
  obtain ⟨attr, ha, hr'⟩ := Option.bind_eq_some_iff.mp ht
  have L1 : Looks (model prog w) s.heap (typeOf (.ref x)) (.ref C) := I.type
  have L2 : Looks (model prog w) s.heap (mroOf (.ref C)) cd.mro := (looks_clsIn X hc).andThen .now
  have L3 : Looks (model prog w) s.heap (classData C) cd := looks_clsIn X hc
  have L4 : Looks (model prog w) s.heap (typeLookup (.ref C) name) attr := looks_findIn X ha
  have L5 : Looks (model prog w) s.heap (storeTaker? attr) none := by
    cases attr with
    | none => exact .now
    | some a =>
      obtain ⟨b, hb, hbb⟩ := Option.map_eq_some_iff.mp hr'
      cases b <;> simp at hbb
      exact (looks_takesIn X hb).andThen .now
  have sub : Looks (model prog w) s.heap (isInstance (.ref x) (.type "object")) true := L1.andThen (looks_mroIn X (by unfold mroIn; rw [hc, Option.bind_some]; cases q : cd.mro <;> simp_all))
  refine codeAny_call_builtin SF.slot.plain SF.entry (@check_slot (model prog w) _ _ s "object.__setattr__" "object" "__setattr__" (.ref x) [.str name tk, v] [] _ SF.kind SF.split sub (SF.args (.ref x) (.str name tk) v) ?_)
  obtain ⟨es₀, n₀, q₀, c₀⟩ := known_plain hl
  have D : s.heap.get? dx = some od := by have := I.dict; rw [hd] at this; exact this
  obtain ⟨hh', g, dr, t, os⟩ := s
  have hx : hh'.get? x = some ox := I.at_
  have hcl : ox.cls = .ref C := I.2
  have put : ∀ {A : Around} {E : Value → Shared → Prop} {Q : Unit → Shared → Prop}, Q () ⟨hh'.update dx (Obj.putName name (PyData.keyHash w.params name) (.str name t) v), g, dr, t + 1, os⟩ → wpAny (model prog w) A (nsSet dx name v) Q E ⟨hh', g, dr, t, os⟩ := fun q => by
    unfold nsSet
    refine wpAny_bind (wpAny_bind (wpAny_askSetting (wpAny_pure (wpAny_bind (wpAny_mkText (wpAny_bind (wpAny_loadPart D ?_)))))))
    rw [q₀]
    dsimp only
    rw [c₀]
    exact wpAny_updatePart D q
  have D' : (hh'.update dx (Obj.putName name (PyData.keyHash w.params name) (.str name t) v)).get? dx = some od' := e ▸ Heap.get?_update_self _ D (e ▸ (by obtain ⟨_, _, dd, _⟩ := od'; cases e'; rfl))
  have past : od'.data.pastItsLine = none := by rw [e']; exact pastItsLine_dict (by rw [List.size_toArray, sizeLine_eq]; omega)
  rw [osa_eq, refuse_eq]
  unfold storeInOwnDict
  repeat (first | simp only [hr, hd] | lk)
  rw [hcl]
  refine wpAny_bind (L3.at ?_)
  rw [hh]
  refine wpAny_pure ?_
  unfold storeInDict
  repeat (first | with_reducible refine put ?_ | with_reducible refine wpAny_lookBehind D' past ?_ | with_reducible refine wpAny_bind ?_ | k_node)
  exact h _ ⟨Heap.size_update _ _ _, fun b hb => Heap.get?_update_ne _ _ _ _ hb⟩ D'
/-- x.name = v, into the object's own dict -/
theorem set_inst {od od' : Obj} {dx : Addr} {v : Value} {es : List DictEntry} {n : Nat} {cd : ClassData} {Q : Unit → Shared → Prop} (X : K.In s.heap)
    (I : InstAt s.heap x ox C (some od)) (hd : ox.dict = some dx) (hc : clsIn K C = some cd) (hr : refuseLoop (.ref x) "__setattr__" cd.mro = pure ()) (ho : cd.mro.contains (.type "object") = true)
    (hs : findIn K (.ref C) "__setattr__" = some (some (.builtin "object.__setattr__")))
    (ht : takerIn K C name = some none) (hh : cd.hasDict = true) (hl : (lookIn name od).isSome = true)
    (e : Obj.putName name (PyData.keyHash w.params name) (.str name (s.toks + 1)) v od = od') (e' : od'.data = .dict es.toArray n) (hz : es.length ≤ 1000)
    (h : ∀ h', Heap.SameBut dx s.heap h' → h'.get? dx = some od' → Q () { s with heap := h', toks := s.toks + 2 }) :
    wpAny (model prog w) A (setAttr (.ref x) name v) Q E s :=
  set_plain (s := s) X I hs (osa_inst (s := { s with toks := s.toks + 1 }) X I hd hc hr ho ht hh hl e e' hz fun h' a b => h h' a b)
/-- the look-up of a call o.name(..), said by what it asks: `gid` stands for object's own look-up, the class holds v of a kind T that binds, no field hides it -/
theorem method_kept {v T : Value} {gid : String} {pl : Sem Bool} {Q : Value × List Value → Shared → Prop} (I : InstAt s.heap x ox C od)
    (L1 : Looks (model prog w) s.heap (specialOf (.ref x) "__getattribute__") (some (.builtin gid))) (L2 : Looks (model prog w) s.heap (specialOf (.ref x) "__getattr__") none)
    (L3 : Looks (model prog w) s.heap (specialOf (.ref x) name) (some v)) (L4 : Looks (model prog w) s.heap (typeOf v) T)
    (hc : (Manifest.canonical gid != "object.__getattribute__") = false) (hT : (T != .type "function" && T != .type "method_descriptor" && T != .type "wrapper_descriptor") = false)
    (hs : shadowIn od name = some false) (h : Q (v, [.ref x]) s) : wpAny (model prog w) A (getMethod (.ref x) name pl) Q E s := by
  obtain ⟨ha, g, d, t, os⟩ := s
  have e := I.dict
  have hx := I.at_
  unfold getMethod
  repeat (first | lk | simp only [hc, hT, Bool.false_eq_true, if_false])
  have fin : wpAny (model prog w) A (do rule "call.method-form"; pure (v, [Value.ref x])) Q E ⟨ha, g, d, t, os⟩ := wpAny_bind (wpAny_rule (wpAny_pure h))
  rcases q : ox.dict with _ | dx
  · exact fin
  rw [q] at e
  rcases od with _ | o
  · exact e.elim
  obtain ⟨r, z, hr⟩ := Option.map_eq_some_iff.mp hs
  have L5 : Looks (model prog w) ha (nsGet dx name) r := fun A _ E u k q => wpAny_bind (wpAny_loadPart (k _ _ e) (by rw [nsLook_of z]; exact wpAny_pure q))
  refine wpAny_bind (L5.at ?_)
  rw [hr]
  exact fin
/-- a method of a class over list -/
theorem method_lst {f : Addr} {pl : Sem Bool} {Q : Value × List Value → Shared → Prop} (X : K.In s.heap) (I : InstAt s.heap x ox C od) (hga : findIn K (.ref C) "__getattribute__" = some (some (.builtin "list.__getattribute__"))) (hk : findIn K (.ref C) "__getattr__" = some none)
    (hf : findIn K (.ref C) name = some (some (.ref f))) (ht : typeIn K (.ref f) = some (.type "function")) (hs : shadowIn od name = some false) (h : Q (.ref f, [.ref x]) s) :
    wpAny (model prog w) A (getMethod (.ref x) name pl) Q E s :=
  method_kept I (I.type.andThen (looks_findIn X hga)) (I.type.andThen (looks_findIn X hk)) (I.type.andThen (looks_findIn X hf)) (looks_typeIn X ht) canon_list_getattribute (by decide +kernel) hs h
/-- a method of list's own, of an object of a class over list -/
theorem method_lstB {id : String} {pl : Sem Bool} {Q : Value × List Value → Shared → Prop} (X : K.In s.heap) (I : InstAt s.heap x ox C od) (hga : findIn K (.ref C) "__getattribute__" = some (some (.builtin "list.__getattribute__"))) (hk : findIn K (.ref C) "__getattr__" = some none)
    (hf : findIn K (.ref C) name = some (some (.builtin id))) (ht : typeOf (.builtin id) = pure (.type "method_descriptor")) (hs : shadowIn od name = some false) (h : Q (.builtin id, [.ref x]) s) :
    wpAny (model prog w) A (getMethod (.ref x) name pl) Q E s :=
  method_kept I (I.type.andThen (looks_findIn X hga)) (I.type.andThen (looks_findIn X hk)) (I.type.andThen (looks_findIn X hf)) (Looks.of_pure ht) canon_list_getattribute (by decide +kernel) hs h
theorem split_lga : splitId "list.__getattribute__" = some ("list", "__getattribute__") := by decide +kernel
theorem kind_lga : builtinKind "list.__getattribute__" = some .slot := by decide +kernel
/-- a field of an object of a class over list -/
theorem get_lst {v : Value} {expr : Bool} {Q : Value → Shared → Prop} (X : K.In s.heap) (I : InstAt s.heap x ox C od) (hga : findIn K (.ref C) "__getattribute__" = some (some (.builtin "list.__getattribute__"))) (hk : findIn K (.ref C) "__getattr__" = some none)
    (hm : mroIn K C (.type "list") = some true) (hf : findObj K C od name = some (.value v)) (hh : handedIn v = true) (h : Q v { s with toks := s.toks + 1 }) : wpAny (model prog w) A (getAttr (.ref x) name expr) Q E s := by
  obtain ⟨hh', g, d, t, os⟩ := s
  have L0 := I.type (M := model prog w)
  have L1 := looks_findIn (M := model prog w) X hga
  have L2 := looks_findIn (M := model prog w) X hk
  have L3 := looks_find (M := model prog w) X I hf
  unfold getAttr getAttrBy
  refine wpAny_bind (wpAny_mkText (wpAny_holding (wpAny_bind (L0.at (wpAny_bind (L1.at ?_))))))
  show wpAny _ _ (getAttrByItsOwn _ _ _ _ _ _) _ _ _
  unfold getAttrByItsOwn hookBefore
  refine wpAny_bind (L2.at ?_)
  refine wpAny_bind (wpAny_attempt (wpAny_holding ?_))
  unfold callGetattribute boundAndCalled
  have hx : (expr && onTheHeap (.builtin "list.__getattribute__")) = false := by cases expr <;> rfl
  rw [hx, if_neg Bool.false_ne_true, PySem.F.slot_list_getattribute.bind]
  have sub : Looks (model prog w) hh' (isInstance (.ref x) (.type "list")) true := L0.andThen (looks_mroIn X hm)
  refine wpAny_bind (wpAny_pure (wpAny_call (codeAny_call_builtin PySem.F.slot_list_getattribute.plain PySem.F.entry_list_ga
    (@check_slot (model prog w) _ _ ⟨hh', g, d, t + 1, os⟩ "list.__getattribute__" "list" "__getattribute__" (.ref x) [.str name t] [] _ kind_lga split_lga sub (PySem.F.args_list_getattribute_2 _ _) ?_))))
  refine wpAny_bind (wpAny_pure ?_)
  refine wpAny_bind (wpAny_pure ?_)
  refine wpAny_bind (L0.at (wpAny_bind (L3.at ?_)))
  refine wpAny_pure ?_
  show wpAny _ _ (handedOut v) _ _ _
  rw [handedOut_of hh]; exact wpAny_pure h
end
end
section
open _root_.PySem _root_.PySem.W _root_.PySem.Calls _root_.PyProof.Rows _root_.PySem.Builtin _root_.PySem.Builtin.ObjectAttr _root_.PySem.Builtin.List
set_option linter.unusedVariables false
set_option linter.deprecated false
set_option maxRecDepth 100000
section
variable {prog : Program} {w : World} {A : Around} {E : Value → Shared → Prop} {s : Shared} {K : Frag} {x C dx : Addr} {ox : Obj} {od : Option Obj} {name : Str} {its : Array Value} {n : Nat}
noncomputable abbrev lsub (C dx : Addr) (its : Array Value) (n : Nat) : Obj := { cls := .ref C, dict := some dx, data := .seq its n }
/-- a method, or a slot, of list's own, on an object of a class over list -/
theorem call_over {id nm : String} {b : Builtin} {rest : List Value} {Q : Value → Shared → Prop} (X : K.In s.heap) (I : InstAt s.heap x ox C od) (hm : mroIn K C (.type "list") = some true)
    (hk : builtinKind id = some .method ∨ builtinKind id = some .slot) (hs : splitId id = some ("list", nm)) (hp : plainId id = true) (he : entryFor table id = some b) (ha : argsOk id ⟨.ref x :: rest, []⟩)
    (h : wpAny (model prog w) A.in1 (b ⟨.ref x :: rest, []⟩) (fun fin s' => ∃ v, fin = .done (.ret v) ∧ Q v s') E s) : wpAny (model prog w) A (PySem.call (.builtin id) (.ref x :: rest)) Q E s := by
  have sub : Looks (model prog w) s.heap (isInstance (.ref x) (.type "list")) true := I.type.andThen (looks_mroIn X hm)
  have body : wpAny (model prog w) A.in1 (b ⟨.ref x :: rest, []⟩)
      (fun fin s' => match fin with | .done f => (match (Except.ok f : Result) with | .ok (.ret v) => Q v s' | .ok _ => False | .error e => E e s') | .again c' => c'.quiet = true ∧ codeAny (model prog w) A c' (fun r s' => match r with | .ok (.ret v) => Q v s' | .ok _ => False | .error e => E e s') s')
      (fun e s' => match (Except.error e : Result) with | .ok (.ret v) => Q v s' | .ok _ => False | .error e => E e s') s := wpAny_mono h (fun fin s' z => by obtain ⟨v, rfl, q⟩ := z; exact q) fun _ _ z => z
  rcases hk with hk | hk
  · exact wpAny_call (codeAny_call_builtin hp he (kfo_check hk hs sub ha body))
  · exact wpAny_call (codeAny_call_builtin hp he (check_slot hk hs sub ha body))
theorem mapSeq_lsub (f : Array Value → Array Value) : ∃ n', Obj.mapSeq f (lsub C dx its n) = lsub C dx (f its) n' := ⟨_, rfl⟩
theorem upd_lsub {h : Heap} (f : Array Value → Array Value) (ho : h.get? x = some (lsub C dx its n)) : ∃ n', (h.update x (Obj.mapSeq f)).get? x = some (lsub C dx (f its) n') := by
  obtain ⟨n', e⟩ := mapSeq_lsub (C := C) (dx := dx) (its := its) (n := n) f
  exact ⟨n', by rw [Heap.get?_update_self _ ho (by rw [e]; rfl), e]⟩
theorem over_append {v : Value} {Q : Value → Shared → Prop} (X : K.In s.heap) (ho : s.heap.get? x = some (lsub C dx its n)) (I : InstAt s.heap x (lsub C dx its n) C od) (hm : mroIn K C (.type "list") = some true)
    (hQ : ∀ h' n', h'.get? x = some (lsub C dx (its.push v) n') → Heap.SameBut x s.heap h' → Q .none { s with heap := h' }) (hsz : its.size ≤ 100000) : wpAny (model prog w) A (PySem.call (.builtin "list.append") [.ref x, v]) Q E s := by
  refine call_over X I hm (.inl (by decide +kernel)) (nm := "append") (by decide +kernel) (by decide +kernel) entry_list_append (args_list_append _ _) ?_
  show wpAny _ _ (updateSeq x (·.push v) >>= fun _ => ret .none) _ _ s
  obtain ⟨n', e⟩ := upd_lsub (·.push v) ho
  refine wpAny_bind (wpAny_updateSeq ho rfl (wpAny_pure ⟨.none, rfl, hQ _ _ e (Heap.SameBut.update ..)⟩) (by rw [sizeLine_eq]; omega) (by rw [sizeLine_eq]; simp; omega))
theorem body_len {Q : Value → Shared → Prop} (ho : s.heap.get? x = some (lsub C dx its n))
    (hQ : ∀ t, Q (.int its.size t) { s with toks := s.toks + 1 }) : wpAny (model prog w) A (Builtin.«list.__len__» ⟨[.ref x], []⟩) (fun fin s' => ∃ v, fin = .done (.ret v) ∧ Q v s') E s := by
  show wpAny _ _ (seqSize x >>= fun k => retInt k) _ _ s
  refine wpAny_bind (wpAny_bind (wpAny_loadPart ho (wpAny_pure ?_)))
  exact wpAny_bind (wpAny_mkInt (wpAny_pure ⟨_, rfl, hQ _⟩))
theorem body_pop {v : Value} {Q : Value → Shared → Prop} (ho : s.heap.get? x = some (lsub C dx (its.push v) n))
    (hQ : ∀ h' n', h'.get? x = some (lsub C dx its n') → Heap.SameBut x s.heap h' → Q v { s with heap := h' }) (hsz : its.size ≤ 100000) : wpAny (model prog w) A (Builtin.«list.pop» ⟨[.ref x], []⟩) (fun fin s' => ∃ v, fin = .done (.ret v) ∧ Q v s') E s := by
  have k1 : (its.push v).isEmpty = false := by simp
  have k2 : (seqIndex? (-1) (its.push v).size).bind (fun k => (its.push v)[k]?.map (k, ·)) = some (its.size, v) := by
    have : seqIndex? (-1) (its.push v).size = some its.size := by simp [seqIndex?]; omega
    rw [this]; simp
  have k3 : (its.push v).eraseIdxIfInBounds its.size = its := by
    rw [Array.eraseIdxIfInBounds, dif_pos (by simp)]
    apply Array.toList_inj.mp
    rw [Array.toList_eraseIdx, Array.toList_push, List.eraseIdx_append_of_length_le (by simp)]
    simp
  show wpAny _ _ (listItems (.ref x) >>= fun xs => _) _ _ s
  refine wpAny_bind (wpAny_listItems ho rfl ?_)
  rw [k1]
  simp only [k2, Bool.false_eq_true, if_false]
  obtain ⟨n', e⟩ := upd_lsub (·.eraseIdxIfInBounds its.size) ho
  rw [k3] at e
  show wpAny _ _ (updateSeq x (·.eraseIdxIfInBounds its.size) >>= fun _ => ret v) _ _ s
  refine wpAny_bind (wpAny_updateSeq ho rfl (wpAny_pure ⟨_, rfl, hQ _ _ e (Heap.SameBut.update ..)⟩) (by rw [sizeLine_eq]; simp; omega) (by rw [sizeLine_eq, k3]; omega))
theorem body_init {Q : Value → Shared → Prop} (ho : s.heap.get? x = some (lsub C dx #[] n))
    (hQ : ∀ h' n', h'.get? x = some (lsub C dx #[] n') → Heap.SameBut x s.heap h' → Q .none { s with heap := h' }) : wpAny (model prog w) A (Builtin.«list.__init__» ⟨[.ref x], []⟩) (fun fin s' => ∃ v, fin = .done (.ret v) ∧ Q v s') E s := by
  obtain ⟨n', e⟩ := upd_lsub (fun _ => #[]) ho
  show wpAny _ _ (listItems (.ref x) >>= fun xs => _) _ _ s
  refine wpAny_bind (wpAny_listItems ho rfl ?_)
  show wpAny _ _ (updateSeq x (fun _ => #[]) >>= fun _ => _) _ _ s
  refine wpAny_bind (wpAny_updateSeq ho rfl ?_ (by rw [sizeLine_eq]; simp) (by rw [sizeLine_eq]; simp))
  refine wpAny_bind (wpAny_letGo ?_)
  exact wpAny_pure ⟨_, rfl, hQ _ _ e (Heap.SameBut.update ..)⟩
theorem over_iter {Q : Value → Shared → Prop} (X : K.In s.heap) (ho : s.heap.get? x = some (lsub C dx its n)) (I : InstAt s.heap x (lsub C dx its n) C od) (hm : mroIn K C (.type "list") = some true)
    (hQ : Q (.ref s.heap.objs.size) { s with heap := s.heap.push { cls := .type "list_iterator", data := .fields #[.ref x, .int 0 0] } }) : wpAny (model prog w) A (PySem.call (.builtin "list.__iter__") [.ref x]) Q E s := by
  refine call_over X I hm (.inr (by decide +kernel)) (nm := "__iter__") (by decide +kernel) (by decide +kernel) entry_list_iter (args_list_iter _) ?_
  show wpAny _ _ (newFields "list_iterator" [.ref x, rawInt 0] >>= ret) _ _ s
  exact wpAny_bind (wpAny_newObj_type (wpAny_pure ⟨_, rfl, hQ⟩))
end
end
section
open _root_.PySem _root_.PySem.W _root_.PySem.Calls _root_.PyProof.Rows _root_.PySem.Builtin _root_.PySem.Builtin.ObjectAttr _root_.PySem.Builtin.List
set_option linter.unusedVariables false
set_option linter.deprecated false
set_option maxRecDepth 100000
theorem size3 {α : Type} (xs new : Array α) (a b : Nat) : (xs.extract 0 a ++ new ++ xs.extract b xs.size).size ≤ xs.size + new.size + xs.size := by
  rw [Array.size_append, Array.size_append, Array.size_extract, Array.size_extract]
  exact Nat.add_le_add (Nat.add_le_add (Nat.le_trans (Nat.sub_le _ _) (Nat.min_le_right _ _)) (Nat.le_refl _)) (Nat.le_trans (Nat.sub_le _ _) (Nat.min_le_right _ _))
section
variable {prog : Program} {w : World} {A : Around} {E : Value → Shared → Prop} {s : Shared} {K : Frag} {x C dx : Addr} {ox : Obj} {od : Option Obj} {name : Str} {its : Array Value} {n : Nat}
theorem over_key {v : Value} {Q : Value → Shared → Prop} (X : K.In s.heap) (I : InstAt s.heap x ox C od) (hq : noSeq K C = true) (h : Q v s) : wpAny (model prog w) A (sequenceKey (.ref x) v name) Q E s := by
  unfold sequenceKey
  refine wpAny_bind (I.type.here ?_)
  refine wpAny_bind ((anyM_none X hq).here ?_)
  rw [if_pos (show (!false) = true from rfl)]
  exact wpAny_pure h
theorem over_getItem {k : Int} {t : Tok} {v : Value} {Q : Value → Shared → Prop} (X : K.In s.heap) (ho : s.heap.get? x = some (lsub C dx its n)) (I : InstAt s.heap x (lsub C dx its n) C od) (hm : mroIn K C (.type "list") = some true) (hq : noSeq K C = true)
    (hf : findIn K (.ref C) "__getitem__" = some (some (.builtin "list.__getitem__"))) (h0 : 0 ≤ k) (hfit : k < 2 ^ 63) (hx : its[k.toNat]? = some v) (h : Q v s) : wpAny (model prog w) A (getItem (.ref x) (.int k t)) Q E s := by
  unfold getItem
  refine wpAny_holding (wpAny_bind (over_key X I hq (wpAny_bind (kfo_special X I hf slot_list_getitem.bind ?_))))
  refine call_over X I hm (by decide +kernel) (nm := "__getitem__") (by decide +kernel) (by decide +kernel) entry_list_getitem (args_list_getitem _ _) ?_
  show wpAny _ _ (Builtin.List.listSubscript? (.int k t) >>= _) _ _ s
  refine wpAny_bind (wpAny_listSubscript_int (fitsIndex_of h0 hfit) ?_)
  clear hfit
  obtain ⟨j, rfl⟩ := Int.eq_ofNat_of_zero_le h0
  have hx' : its[j]? = some v := hx
  show wpAny _ _ ((seqItemAt x j >>= fun r => pure (r.map (j, ·))) >>= _) _ _ s
  refine wpAny_bind (wpAny_bind (wpAny_seqItemAt ho rfl (wpAny_pure ?_)))
  rw [hx']
  first
    | exact wpAny_bind (wpAny_pure (wpAny_pure ⟨v, rfl, wpAny_pure h⟩))
    | exact wpAny_pure ⟨v, rfl, wpAny_pure h⟩
/-- a slice object is no index -/
theorem slice_sub {sl : Addr} {vl vu vs : Value} {Q : Option Int → Shared → Prop} (hs : s.heap.IsSliceOf sl vl vu vs) (h : Q none s) : wpAny (model prog w) A (listSubscript? (.ref sl)) Q E s := by
  have hT : s.TypeIs (.ref sl) "slice" := let ⟨o, e, c, _⟩ := hs; ⟨o, e, c⟩
  unfold listSubscript?
  refine wpAny_bind (wpAny_specialOf hT slice_no_index ?_)
  exact wpAny_pure h
theorem raw_step {st : Option Int} (h0 : st ≠ some 0) : (rawPart st == rawInt 0) = false := by
  rcases st with _ | c
  · rfl
  · have : c ≠ 0 := fun e => h0 (congrArg some e)
    simp [rawPart, rawInt, this]
/-- the three parts of a slice object, none of them asked for an __index__ -/
theorem slice_parts {sl : Addr} {vl vu vs : Value} {lo hi st : Option Int} {Q : Value × Value × Value → Shared → Prop} (hs : s.heap.IsSliceOf sl vl vu vs) (pl : IsPart vl lo) (pu : IsPart vu hi) (ps : IsPart vs st) (h0 : st ≠ some 0)
    (h : Q (rawPart lo, rawPart hi, rawPart st) s) : wpAny (model prog w) A (listSliceParts (.ref sl)) Q E s := by
  obtain ⟨o, e, -, d⟩ := hs
  have part : ∀ {v : Value} {k : Option Int} {i : Nat} {β : Type} {f : Value → Sem β} {Q : β → Shared → Prop}, (#[vl, vu, vs] : Array Value)[i]? = some v → IsPart v k → wpAny (model prog w) A (f (rawPart k)) Q E s →
      wpAny (model prog w) A (field (.ref sl) i >>= fun v => listPart v >>= f) Q E s := fun x p q => wpAny_bind (wpAny_field e d x (wpAny_bind (wpAny_listPart p q)))
  rw [listSliceParts_eq]
  refine part (v := vs) rfl ps ?_
  rw [raw_step h0]
  exact part (v := vl) rfl pl (part (v := vu) rfl pu (wpAny_pure h))
theorem over_slice {sl : Addr} {vl vu vs : Value} {lo hi st : Option Int} {Q : Value → Shared → Prop} (X : K.In s.heap) (ho : s.heap.get? x = some (lsub C dx its n)) (I : InstAt s.heap x (lsub C dx its n) C od) (hm : mroIn K C (.type "list") = some true) (hq : noSeq K C = true)
    (hf : findIn K (.ref C) "__getitem__" = some (some (.builtin "list.__getitem__")))
    (hs : s.heap.IsSliceOf sl vl vu vs) (pl : IsPart vl lo) (pu : IsPart vu hi) (ps : IsPart vs st) (h0 : st ≠ some 0)
    (h : Q (.ref s.heap.objs.size) { s with heap := s.heap.push { cls := .type "list", data := .seq (slicePick its lo hi st) } })
    (hsz : its.size ≤ sizeLine) : wpAny (model prog w) A (getItem (.ref x) (.ref sl)) Q E s := by
  have hT : s.TypeIs (.ref sl) "slice" := let ⟨o, e, c, _⟩ := hs; ⟨o, e, c⟩
  unfold getItem
  refine wpAny_holding (wpAny_bind (over_key X I hq (wpAny_bind (kfo_special X I hf slot_list_getitem.bind (call_over X I hm (.inl (by decide +kernel)) (nm := "__getitem__") (by decide +kernel) (by decide +kernel) entry_list_getitem (args_list_getitem _ _) ?_)))))
  refine wpAny_bind (wpAny_pure (wpAny_bind (slice_sub hs (wpAny_bind (wpAny_typeOf hT ?_)))))
  rw [if_neg (by decide)]
  exact wpAny_bind (slice_parts hs pl pu ps h0 (wpAny_bind (wpAny_listItems ho rfl (wpAny_bind (wpAny_of_eq (sliceIndices_raw lo hi st its.size h0)
    (wpAny_bind (wpAny_newObj_type (wpAny_pure ⟨_, rfl, wpAny_pure h⟩) (Nat.le_trans (slicePick_size_le its lo hi st) hsz))))))))
/-- x[lo:] = new, of a class over list; new a plain list -/
theorem over_setSlice {sl y : Addr} {vl vu vs : Value} {lo hi : Option Int} {new : Array Value} {Q : Unit → Shared → Prop} (X : K.In s.heap) (ho : s.heap.get? x = some (lsub C dx its n)) (I : InstAt s.heap x (lsub C dx its n) C od) (hm : mroIn K C (.type "list") = some true) (hq : noSeq K C = true)
    (hf : findIn K (.ref C) "__setitem__" = some (some (.builtin "list.__setitem__")))
    (hs : s.heap.IsSliceOf sl vl vu .none) (pl : IsPart vl lo) (pu : IsPart vu hi) (hy : s.heap.IsList y new) (hxy : x ≠ y)
    (h : ∀ h' n' out, (let b := sliceBounds lo hi none its.size; out = its.extract 0 b.1.toNat ++ new ++ its.extract (max b.1 b.2.1).toNat its.size) → h'.get? x = some (lsub C dx out n') → Heap.SameBut x s.heap h' → Q () { s with heap := h' })
    (hsz : its.size ≤ 1000) (hsn : new.size ≤ 1000) : wpAny (model prog w) A (setItem (.ref x) (.ref sl) (.ref y)) Q E s := by
  have hT : s.TypeIs (.ref sl) "slice" := let ⟨o, e, c, _⟩ := hs; ⟨o, e, c⟩
  unfold setItem
  refine wpAny_holding (wpAny_bind (over_key X I hq (wpAny_bind (kfo_special X I hf slot_list_setitem.bind (call_over X I hm (.inr (by decide +kernel)) (nm := "__setitem__") (by decide +kernel) (by decide +kernel) entry_list_setitem (args_list_setitem _ _ _) ?_)))))
  refine wpAny_bind (wpAny_pure (wpAny_bind (slice_sub hs (wpAny_bind (wpAny_typeOf hT ?_)))))
  rw [if_neg (by decide)]
  refine wpAny_bind (slice_parts hs pl pu .none (by simp) ?_)
  dsimp only
  obtain ⟨oy, hoy, hcy, ny, hdy⟩ := id hy
  have hne : listSameRef (.ref x) (.ref y) = false := by simp [listSameRef]; exact hxy
  rw [hne, if_neg Bool.false_ne_true]
  unfold listAllItems
  refine wpAny_bind (wpAny_bind (wpAny_typeOf (show s.TypeIs (.ref y) "list" from hy.typeIs) ?_))
  rw [if_pos (by decide)]
  refine wpAny_listItems hoy hdy ?_
  refine wpAny_bind (wpAny_listItems ho rfl ?_)
  refine wpAny_bind (wpAny_of_eq (sliceIndices_raw lo hi none its.size (by simp)) ?_)
  rw [if_pos (show ((sliceBounds lo hi none its.size).2.2 == 1) = true from rfl)]
  refine wpAny_bind (wpAny_rule ?_)
  have ht : listTooLong (its.size + new.size) = false := by unfold listTooLong; rw [sizeLine_eq]; simp; omega
  rw [ht, if_neg Bool.false_ne_true]
  generalize hb : sliceBounds lo hi none its.size = b at *
  obtain ⟨n', e⟩ := upd_lsub (fun xs => xs.extract 0 b.1.toNat ++ new ++ xs.extract (max b.1 b.2.1).toNat xs.size) ho
  show wpAny _ _ (updateSeq x (fun xs => xs.extract 0 b.1.toNat ++ new ++ xs.extract (max b.1 b.2.1).toNat xs.size) >>= _) _ _ s
  refine wpAny_bind (wpAny_updateSeq ho rfl (wpAny_bind (wpAny_letGo (wpAny_pure ⟨_, rfl, wpAny_pure (h _ n' _ rfl e (Heap.SameBut.update ..))⟩))) (by rw [sizeLine_eq]; omega) (by rw [sizeLine_eq]; exact Nat.le_trans (size3 its new _ _) (by omega)))
end
end
section
open _root_.PySem _root_.PySem.W _root_.PySem.Calls _root_.PyProof.Rows _root_.PySem.Builtin _root_.PySem.Builtin.ObjectAttr _root_.PySem.Builtin.List
set_option linter.unusedVariables false
set_option linter.deprecated false
set_option maxRecDepth 100000
theorem slot_md_get : Slot "method_descriptor" "__get__" "method_descriptor.__get__" := .of (owner := "method_descriptor") (n := "__get__") (by rw [typeLookup_type, builtinLookup_eq_fast]; kernel_rfl) (by decide +kernel) (by decide +kernel) (by decide +kernel)
  (by first | exact .inl (by decide +kernel) | exact .inr (by decide +kernel)) (by rw [isSubtype_type]; kernel_rfl)
theorem slot_wd_get : Slot "wrapper_descriptor" "__get__" "wrapper_descriptor.__get__" := .of (owner := "wrapper_descriptor") (n := "__get__") (by rw [typeLookup_type, builtinLookup_eq_fast]; kernel_rfl) (by decide +kernel) (by decide +kernel) (by decide +kernel)
  (by first | exact .inl (by decide +kernel) | exact .inr (by decide +kernel)) (by rw [isSubtype_type]; kernel_rfl)
theorem entry_md_get : entryFor table "method_descriptor.__get__" = some Builtin.«method_descriptor.__get__» := entryFor_of_tree (by kernel_rfl)
theorem entry_wd_get : entryFor table "wrapper_descriptor.__get__" = some Builtin.«wrapper_descriptor.__get__» := entryFor_of_tree (by kernel_rfl)
theorem args_md_get (a b c : Value) : argsOk "method_descriptor.__get__" ⟨[a, b, c], []⟩ := by unfold argsOk; kernel_rfl
theorem args_wd_get (a b c : Value) : argsOk "wrapper_descriptor.__get__" ⟨[a, b, c], []⟩ := by unfold argsOk; kernel_rfl
noncomputable abbrev boundB (k : String) (id : String) (x : Addr) : Obj := { cls := .type k, data := .fields #[.builtin id, .ref x] }
section
variable {prog : Program} {w : World} {A : Around} {E : Value → Shared → Prop} {s : Shared} {K : Frag} {x C dx : Addr} {ox : Obj} {od : Option Obj} {name : Str} {its : Array Value} {n : Nat} {P : Params}
theorem call_md_get {Q : Value → Shared → Prop} (sub : Looks (model prog w) s.heap (isInstance (.ref x) (.type "list")) true) (hty : typeOf (.builtin "list.pop") = pure (.type "method_descriptor"))
    (h : Q (.ref s.heap.objs.size) { s with heap := s.heap.push (boundB "builtin_function_or_method" "list.pop" x) }) : wpAny (model prog w) A (PySem.call (.builtin "method_descriptor.__get__") [.builtin "list.pop", .ref x, .ref C]) Q E s := by
  refine wpAny_call_entry slot_md_get (show s.TypeIs (.builtin "list.pop") "method_descriptor" from hty) entry_md_get ?_ (args_md_get _ _ _)
  obtain ⟨hh, g, d, t, os⟩ := s
  have sub' : Looks (model prog w) hh (isInstance (.ref x) (.type (".".intercalate ("list.pop".cutAt '.').dropLast))) true := by
    have e : ".".intercalate ("list.pop".cutAt '.').dropLast = "list" := by decide +kernel
    rw [e]; exact sub
  unfold Builtin.«method_descriptor.__get__»
  have e1 : Manifest.toldItsClass.contains "list.pop" = false := by decide +kernel
  iterate 20 (try lk)
  refine wpAny_pure ?_
  refine wpAny_bind (sub'.at ?_)
  rw [if_neg (by decide)]
  exact wpAny_pure (wpAny_bind (wpAny_newObj_type (wpAny_pure ⟨_, rfl, h⟩)))
theorem call_wd_get {id : String} {Q : Value → Shared → Prop} (sub : Looks (model prog w) s.heap (isInstance (.ref x) (.type "list")) true) (hty : typeOf (.builtin id) = pure (.type "wrapper_descriptor")) (ho : ".".intercalate (id.cutAt '.').dropLast = "list")
    (h : Q (.ref s.heap.objs.size) { s with heap := s.heap.push (boundB "method-wrapper" id x) }) : wpAny (model prog w) A (PySem.call (.builtin "wrapper_descriptor.__get__") [.builtin id, .ref x, .ref C]) Q E s := by
  refine wpAny_call_entry slot_wd_get (show s.TypeIs (.builtin id) "wrapper_descriptor" from hty) entry_wd_get ?_ (args_wd_get _ _ _)
  obtain ⟨hh, g, d, t, os⟩ := s
  have sub' : Looks (model prog w) hh (isInstance (.ref x) (.type (".".intercalate (id.cutAt '.').dropLast))) true := by
    rw [ho]; exact sub
  unfold Builtin.«wrapper_descriptor.__get__»
  iterate 17 (try lk)
  refine wpAny_pure ?_
  refine wpAny_bind (sub'.at ?_)
  rw [if_neg (by decide)]
  exact wpAny_pure (wpAny_bind (wpAny_newObj_type (wpAny_pure ⟨_, rfl, h⟩)))
theorem mroA {M : Model} {h : Heap} (X : (kk P).In h) : Looks M h (mroOf (.ref 185)) [.ref 185, .type "list", .type "object"] := .of_peek X (by kernel_rfl)
theorem super_seen {M : Model} {h : Heap} (X : (kk P).In h) : Looks M h (opaqueClassAbove (.ref 185)) none := .of_peek X (by kernel_rfl)
/-- what super().name is, where list has the name for its own -/
theorem super_ga {so : Addr} {id T k gid : String} {tk : Tok} {Q : Fin → Shared → Prop} (X : (kk P).In s.heap) (hso : s.heap.get? so = some (ks_superObj 185 x 185)) (hx : x ≠ 185) (hn : (name == ("__class__" : Str)) = false)
    (own : Looks (model prog w) s.heap (classOwn (.type "list") name) (some (.builtin id))) (hty : typeOf (.builtin id) = pure (.type T)) (hg : typeLookup (.type T) "__get__" = pure (some (.builtin gid)))
    (hcall : ∀ (A : Around) (E : Value → Shared → Prop) (Q : Value → Shared → Prop), Q (.ref s.heap.objs.size) { s with heap := s.heap.push (boundB k id x) } → wpAny (model prog w) A (PySem.call (.builtin gid) [.builtin id, .ref x, .ref 185]) Q E s)
    (hq : Q (.done (.ret (.ref s.heap.objs.size))) { s with heap := s.heap.push (boundB k id x) }) :
    wpAny (model prog w) A (Builtin.«super.__getattribute__» ⟨[.ref so, .str name tk], []⟩) Q E s := by
  obtain ⟨h, g, d, t, os⟩ := s
  have L1 := mroA (M := model prog w) X
  have L2 := super_seen (M := model prog w) X
  have L3 : Looks (model prog w) h (typeOf (.builtin id)) (.type T) := .of_pure hty
  have L4 : Looks (model prog w) h (typeLookup (.type T) "__get__") (some (.builtin gid)) := .of_pure hg
  have c1 : (Value.ref x == Value.ref 185) = false := by simp [hx]
  have c2 : ((([.ref 185, .type "list", .type "object"] : List Value).dropWhile (· != .ref 185)).drop 1) = [.type "list", .type "object"] := by decide
  unfold Builtin.«super.__getattribute__»
  have fld : ∀ {A : Around} {Q : Value → Shared → Prop} (i : Nat) (v : Value), (#[Value.ref 185, Value.ref x, Value.ref 185] : Array Value)[i]? = some v → Q v ⟨h, g, d, t, os⟩ → wpAny (model prog w) A (field (.ref so) i) Q E ⟨h, g, d, t, os⟩ := fun _ _ e q => wpAny_field hso rfl e q
  have f0 := fun {A : Around} {Q : Value → Shared → Prop} => fld (A := A) (Q := Q) 0 (.ref 185) rfl
  have f1 := fun {A : Around} {Q : Value → Shared → Prop} => fld (A := A) (Q := Q) 1 (.ref x) rfl
  have f2 := fun {A : Around} {Q : Value → Shared → Prop} => fld (A := A) (Q := Q) 2 (.ref 185) rfl
  repeat (first | with_reducible refine f0 ?_ | with_reducible refine f1 ?_ | with_reducible refine f2 ?_ | with_reducible refine hcall _ _ _ ?_ | simp only [c1, c2, hn, Bool.or_false, Bool.false_eq_true, if_false, List.forIn_cons] | lk)
  exact hq
/-- the look-up of a call super().name(..) -/
theorem super_method {so : Addr} {id T k gid : String} {pl : Sem Bool} {Q : Value × List Value → Shared → Prop} (X : (kk P).In s.heap) (hso : s.heap.get? so = some (ks_superObj 185 x 185)) (hx : x ≠ 185) (hn : (name == ("__class__" : Str)) = false)
    (own : Looks (model prog w) s.heap (classOwn (.type "list") name) (some (.builtin id))) (hty : typeOf (.builtin id) = pure (.type T)) (hg : typeLookup (.type T) "__get__" = pure (some (.builtin gid)))
    (hcall : ∀ (s' : Shared) (A : Around) (E : Value → Shared → Prop) (Q : Value → Shared → Prop), s'.heap = s.heap → Q (.ref s'.heap.objs.size) { s' with heap := s'.heap.push (boundB k id x) } → wpAny (model prog w) A (PySem.call (.builtin gid) [.builtin id, .ref x, .ref 185]) Q E s')
    (hq : Q (.ref s.heap.objs.size, []) { s with heap := s.heap.push (boundB k id x), toks := s.toks + 1 }) : wpAny (model prog w) A (getMethod (.ref so) name pl) Q E s := by
  obtain ⟨h, g, d, t, os⟩ := s
  have S := F.ks_slot_super_ga
  have L1 : Looks (model prog w) h (typeOf (.ref so)) (.type "super") := (Looks.ld hso).andThen .now
  have L2 : Looks (model prog w) h (typeLookup (.type "super") "__getattribute__") (some (.builtin "super.__getattribute__")) := .of_pure S.lookup
  have L3 : Looks (model prog w) h (if onTheHeap (.type "super") then typeLookup (.type "super") "__getattr__" else pure none) none := .of_pure rfl
  have L4 : Looks (model prog w) h (bindSpecial (.builtin "super.__getattribute__") (.ref so)) (.builtin "super.__getattribute__", [.ref so]) := .of_pure (S.bind _)
  have c1 := F.ks_canon_super_ga
  have key : ∀ {A : Around} {E : Value → Shared → Prop} {Q : Value → Shared → Prop}, Q (.ref h.objs.size) ⟨h.push (boundB k id x), g, d, t + 1, os⟩ → wpAny (model prog w) A (call (.builtin "super.__getattribute__") ([.ref so] ++ [.str name t])) Q E ⟨h, g, d, t + 1, os⟩ := fun q =>
    wpAny_call_entry S ⟨_, hso, rfl⟩ F.ks_entry_super_ga (super_ga (s := ⟨h, g, d, t + 1, os⟩) X hso hx hn own hty hg (fun A E Q q => hcall _ A E Q rfl q) ⟨_, rfl, q⟩) (F.ks_gaArgs_super _ _)
  unfold getMethod specialOf getAttr getAttrBy getAttrByItsOwn hookBefore callGetattribute boundAndCalled
  repeat (first | simp only [c1, if_true] | with_reducible refine wpAny_attempt ?_ | with_reducible refine key ?_ | lk)
  exact hq
/-- a bound method of list's own, called -/
theorem call_bound_b {b : Addr} {id k : String} {bi : Builtin} {args : List Value} {Q : Value → Shared → Prop} (hb : s.heap.get? b = some (boundB k id x)) (hk : k = "builtin_function_or_method" ∨ k = "method-wrapper")
    (hp : plainId id = true) (he : entryFor table id = some bi)
    (hc : ∀ (A : Around) (E : Value → Shared → Prop) (Q : Unit → Shared → Prop), Q () s → wpAny (model prog w) A (checkBoundCall id ⟨.ref x :: args, []⟩) Q E s)
    (h : wpAny (model prog w) A.in1 (bi ⟨.ref x :: args, []⟩) (fun fin s' => ∃ v, fin = .done (.ret v) ∧ Q v s') E s) : wpAny (model prog w) A (PySem.call (.ref b) args) Q E s := by
  have body : ∀ R : Result → Shared → Prop, (∀ r s', (match r with | .ok (.ret v) => Q v s' | .ok _ => False | .error e => E e s') → R r s') → codeAny (model prog w) A (.builtin id ⟨.ref x :: args, []⟩) R s := fun R hR => by
    refine codeAny_builtin he ?_
    rw [Around.under_plainId hp]
    exact wpAny_mono h (fun fin s' z => by obtain ⟨v, rfl, q⟩ := z; exact hR _ _ q) fun e s' z => hR (.error e) s' z
  refine wpAny_call (codeAny_of_tree ?_)
  show wpAny _ A.in1 (callAny (.ref b) ⟨args, []⟩) _ _ _
  unfold callAny
  refine wpAny_bind (wpAny_load hb ?_)
  rcases hk with rfl | rfl
  · exact wpAny_bind (hc _ _ _ (wpAny_bind (wpAny_pure (wpAny_pure ⟨plainId_quiet hp _, body _ fun _ _ z => z⟩))))
  · exact wpAny_bind (hc _ _ _ (wpAny_bind (wpAny_pure (wpAny_pure ⟨plainId_quiet hp _, body _ fun _ _ z => z⟩))))
theorem bound_check_slot {id : String} {args : List Value} {Q : Unit → Shared → Prop} (hk : builtinKind id = some .slot) (ha : argsOk id ⟨.ref x :: args, []⟩) (q : Q () s) : wpAny (model prog w) A (checkBoundCall id ⟨.ref x :: args, []⟩) Q E s := by
  unfold checkBoundCall
  cases hsig : Manifest.signature? id with
  | none => exact wpAny_pure q
  | some sig =>
    simp only [argsOk, hsig] at ha
    have h2 : Bind.checkArgs id sig ⟨.ref x :: args, []⟩ = pure () := ha
    simp only [hk]
    show wpAny _ _ (Bind.checkArgs id sig ⟨.ref x :: args, []⟩) _ _ _
    rw [h2]; exact wpAny_pure q
theorem bound_check_pop {cd : ClassData} {Q : Unit → Shared → Prop} (X : K.In s.heap) (I : InstAt s.heap x ox C od) (hm : mroIn K C (.type "module") = some false) (hc : clsIn K C = some cd) (hq : cd.qualname = "_Accumulator") (hmt : typeIn K (.ref C) = some (.type "type")) (q : Q () s) : wpAny (model prog w) A (checkBoundCall "list.pop" ⟨[.ref x], []⟩) Q E s := by
  obtain ⟨hh, g, d, t, os⟩ := s
  have L0 := I.type (M := model prog w)
  have sub : Looks (model prog w) hh (isInstance (.ref x) (.type "module")) false := L0.andThen (looks_mroIn X hm)
  have L1 := looks_clsIn (M := model prog w) X hc
  have L2 := looks_typeIn (M := model prog w) X hmt
  have nc : ∀ c, ox.data ≠ .cls c := fun c e => by
    have := I.no
    unfold notCls at this
    rw [e] at this
    exact Bool.noConfusion this
  unfold checkBoundCall
  rw [PySem.signature?_of (id := "list.pop") (n := ['p', 'o', 'p']) (o := ['t', 's', 'i', 'l']) (by kernel_rfl) PySem.F.owner_list]
  have e1 : builtinKind "list.pop" = some .method := by decide +kernel
  have e2 : Manifest.varargsMethods.contains "list.pop" = false := by decide +kernel
  simp only [e1, e2]
  refine wpAny_bind (sub.at ?_)
  refine wpAny_bind (ks_wpAny_isType_inst I.at_ nc ?_)
  refine wpAny_bind (L0.at ?_)
  refine wpAny_bind (L1.at ?_)
  refine wpAny_bind (L2.at ?_)
  rw [hq]
  refine wpAny_of_eq (a := ()) ?_ q
  kernel_rfl
end
end
section
open _root_.PySem _root_.PySem.W _root_.PySem.Calls _root_.PyProof.Rows _root_.PySem.Builtin _root_.PySem.Builtin.ObjectAttr _root_.PySem.Builtin.List
set_option linter.unusedVariables false
set_option linter.deprecated false
set_option maxRecDepth 100000
/-- where the formatter and its parts lie -/
structure Ob where
  F : Addr
  Fd : Addr
  LI : Addr
  AC : Addr
  Ad : Addr
noncomputable def Ob.mut (o : Ob) : List Addr := [o.LI, o.AC, o.Ad, 147, 154]
noncomputable def partV (c : Nat) : V := .tup [.str [], .str [c]]
noncomputable abbrev adList (P : Params) (t u : Tok) : List DictEntry := [⟨PyData.keyHash P "_initial_size", .str "_initial_size" t, .int 0 u⟩]
noncomputable abbrev fdList (P : Params) (k v : Nat → Tok) (LI AC : Addr) : List DictEntry :=
  [⟨PyData.keyHash P "_maxlen", .str "_maxlen" (k 0), .int 1 (v 0)⟩, ⟨PyData.keyHash P "_continuation_ws", .str "_continuation_ws" (k 1), .str " " (v 1)⟩,
   ⟨PyData.keyHash P "_continuation_ws_len", .str "_continuation_ws_len" (k 2), .int 1 (v 2)⟩, ⟨PyData.keyHash P "_splitchars", .str "_splitchars" (k 3), .str "^|" (v 3)⟩,
   ⟨PyData.keyHash P "_lines", .str "_lines" (k 4), .ref LI⟩, ⟨PyData.keyHash P "_current_line", .str "_current_line" (k 5), .ref AC⟩]
/-- an accumulator that holds the signs cs, each with no space ahead -/
noncomputable def AccAt (P : Params) (h : Heap) (AC Ad : Addr) (cs : List Nat) : Prop :=
  ∃ its n t u k, h.get? AC = some (lsub 185 Ad its n) ∧ All2 (ER h) (cs.map partV) its.toList ∧ h.get? Ad = some (dictOf (adList P t u) k)
noncomputable def LinesAt (h : Heap) (LI : Addr) (ls : List (List Nat)) : Prop := ∃ its : Array Value, h.PlainList LI its ∧ All2 PR (ls.map V.str) its.toList
structure St (P : Params) (h : Heap) (o : Ob) (ls : List (List Nat)) (cs : List Nat) : Prop where
  f : h.get? o.F = some (instObj 101 o.Fd)
  fd : ∃ k v n, h.get? o.Fd = some (dictOf (fdList P k v o.LI o.AC) n)
  acc : AccAt P h o.AC o.Ad cs
  li : LinesAt h o.LI ls
noncomputable def TabOk (pos : Pos) (ps : Array Value) : Prop := ps = #[] ∨ ∃ c', ps = #[rawInt pos.line, rawInt pos.col, .ref c']
noncomputable def posL : Pos := { line := 100, col := 19, endLine := 100, endCol := 63 }
noncomputable def posS : Pos := { line := 103, col := 32, endLine := 103, endCol := 85 }
structure Wd (c : Cx) (o : Ob) (h : Heap) (g : Array GenState) : Prop where
  base : Ext c.h₀ h
  t1 : ∃ ps, h.get? 147 = some (tabObj ps) ∧ TabOk posL ps
  t2 : ∃ ps, h.get? 154 = some (tabObj ps) ∧ TabOk posS ps
  bare : AllBare g
  new : ∀ b ∈ o.mut, c.h₀.get? b = none
theorem not_tup {h : Heap} {a D : Addr} {items : Array Value} {ob : Obj} (t : IsTup h a items) (e : h.get? D = some ob) (hc : ob.cls ≠ .type "tuple") : a ≠ D := by
  rintro rfl
  obtain ⟨o, ho, hcl, _⟩ := t
  rw [e] at ho; cases ho; exact hc hcl
theorem AccAt.ext {P : Params} {h h' : Heap} {AC Ad : Addr} {cs : List Nat} (x : Ext h h') (a : AccAt P h AC Ad cs) : AccAt P h' AC Ad cs := by
  obtain ⟨its, n, t, u, k, e1, e2, e3⟩ := a
  exact ⟨its, n, t, u, k, x _ _ e1, e2.mono fun _ _ => ER.mono x, x _ _ e3⟩
theorem LinesAt.ext {h h' : Heap} {LI : Addr} {ls : List (List Nat)} (x : Ext h h') (a : LinesAt h LI ls) : LinesAt h' LI ls := by
  obtain ⟨its, ⟨n, e⟩, q⟩ := a
  exact ⟨its, ⟨n, x _ _ e⟩, q⟩
theorem St.ext {P : Params} {h h' : Heap} {o : Ob} {ls : List (List Nat)} {cs : List Nat} (x : Ext h h') (a : St P h o ls cs) : St P h' o ls cs :=
  ⟨x _ _ a.f, let ⟨k, v, n, e⟩ := a.fd; ⟨k, v, n, x _ _ e⟩, a.acc.ext x, a.li.ext x⟩
theorem Wd.ext {c : Cx} {h h' : Heap} {g g' : Array GenState} {o : Ob} (x : Ext h h') (hg : AllBare g') (a : Wd c o h g) : Wd c o h' g' :=
  ⟨a.base.trans x, let ⟨ps, e, q⟩ := a.t1; ⟨ps, x _ _ e, q⟩, let ⟨ps, e, q⟩ := a.t2; ⟨ps, x _ _ e, q⟩, hg, a.new⟩
theorem AccAt.but {P : Params} {h h' : Heap} {AC Ad D : Addr} {cs : List Nat} (x : Heap.ExtBut D h h') (h1 : AC ≠ D) (h2 : Ad ≠ D) (ht : ∀ a items, IsTup h a items → a ≠ D) (a : AccAt P h AC Ad cs) : AccAt P h' AC Ad cs := by
  obtain ⟨its, n, t, u, k, e1, e2, e3⟩ := a
  exact ⟨its, n, t, u, k, x _ _ h1 e1, e2.mono fun _ _ => ER.but x ht, x _ _ h2 e3⟩
theorem LinesAt.but {h h' : Heap} {LI D : Addr} {ls : List (List Nat)} (x : Heap.ExtBut D h h') (hd : LI ≠ D) (a : LinesAt h LI ls) : LinesAt h' LI ls := by
  obtain ⟨its, ⟨n, e⟩, q⟩ := a
  exact ⟨its, ⟨n, x _ _ hd e⟩, q⟩
theorem Wd.but {c : Cx} {h h' : Heap} {g : Array GenState} {o : Ob} {D : Addr} (x : Heap.ExtBut D h h') (hb : c.h₀.get? D = none) (h1 : 147 ≠ D) (h2 : 154 ≠ D) (a : Wd c o h g) : Wd c o h' g :=
  ⟨fun b ob e => x _ _ (fun q => by rw [q, hb] at e; cases e) (a.base _ _ e), let ⟨ps, e, q⟩ := a.t1; ⟨ps, x _ _ h1 e, q⟩, let ⟨ps, e, q⟩ := a.t2; ⟨ps, x _ _ h2 e, q⟩, a.bare, a.new⟩
/-- two objects at one place -/
theorem ne_of {h : Heap} {a b : Addr} {o o' : Obj} (e : h.get? a = some o) (e' : h.get? b = some o') (hn : o ≠ o') : a ≠ b := by
  rintro rfl
  rw [e] at e'; exact hn (Option.some.inj e')
theorem ne_cls {h : Heap} {a b : Addr} {o o' : Obj} (e : h.get? a = some o) (e' : h.get? b = some o') (hn : o.cls ≠ o'.cls) : a ≠ b := ne_of e e' fun q => hn (by rw [q])
theorem ns_ne {h : Heap} {L b : Addr} {m : Str → Option Value} {ob : Obj} (n : h.Ns L m) (e : h.get? b = some ob) (hd : ∀ es k, ob.data ≠ .dict es k) : b ≠ L := by
  rintro rfl
  obtain ⟨o, es, ep, ho, hdd, _⟩ := n
  rw [e] at ho; cases ho; exact hd _ _ hdd
/-- a frame of the class part -/
structure Cf (c : Cx) (f : Fm) (o : Ob) (m : Str → Option Value) (ls : List (List Nat)) (cs : List Nat) (s₀ : Shared) (h : Heap) (g : Array GenState) (os : OsState) : Prop where
  kind : f.sc.kind = .function
  room : Room f.A f.d
  ns : h.Ns f.L m
  st : St c.w.params h o ls cs
  w : Wd c o h g
  pv : ∀ b ob, b ∉ o.mut → s₀.heap.get? b = some ob → h.get? b = some ob
  osE : os = s₀.os
  fresh : s₀.heap.get? f.L = none
  b0 : Ext c.h₀ s₀.heap
  nd : f.L ≠ o.Ad ∧ f.L ≠ o.Fd
section
variable {c : Cx} {f : Fm} {o : Ob} {m : Str → Option Value} {ls : List (List Nat)} {cs : List Nat} {s₀ : Shared} {h h' : Heap} {g g' : Array GenState} {os os' : OsState}
theorem Cf.ext (C : Cf c f o m ls cs s₀ h g os) (x : Ext h h') (hg : AllBare g') (ho : os' = os) : Cf c f o m ls cs s₀ h' g' os' :=
  ⟨C.kind, C.room, C.ns.keeps x, C.st.ext x, C.w.ext x hg, fun b ob hb e => x _ _ (C.pv b ob hb e), ho.trans C.osE, C.fresh, C.b0, C.nd⟩
theorem Cf.X (ok : c.Ok) (C : Cf c f o m ls cs s₀ h g os) : c.K.In h := ok.k.keeps C.w.base
theorem Wd.X {c : Cx} {o : Ob} {h : Heap} {g : Array GenState} (ok : c.Ok) (W : Wd c o h g) : c.K.In h := ok.k.keeps W.base
theorem St.accLi {P : Params} (S : St P h o ls cs) : o.LI ≠ o.AC ∧ o.AC ≠ o.Ad ∧ o.LI ≠ o.Ad ∧ o.F ≠ o.AC ∧ o.F ≠ o.LI ∧ o.F ≠ o.Ad ∧ o.Fd ≠ o.AC ∧ o.Fd ≠ o.LI ∧ o.Fd ≠ o.Ad := by
  obtain ⟨f, ⟨k, v, n, fd⟩, ⟨its, n', t, u, k', e1, _, e3⟩, ⟨its2, ⟨n2, e4⟩, _⟩⟩ := S
  refine ⟨ne_cls e4 e1 (by simp), ne_cls e1 e3 (by simp), ne_cls e4 e3 (by simp), ne_cls f e1 (by simp), ne_cls f e4 (by simp), ne_cls f e3 (by simp), ne_cls fd e1 (by simp), ne_cls fd e4 (by simp), ne_of fd e3 (by simp)⟩
theorem Cf.store {s : Shared} {x : String} {v : Value} {E : Value → Shared → Prop} {Q : Unit → Shared → Prop} (C : Cf c f o m ls cs s₀ s.heap s.gens s.os) (hl : f.sc.names.lookup (Str.ofString x) = some .local)
    (k : ∀ h', Cf c f o (fun y => if y = Str.ofString x then some v else m y) ls cs s₀ h' s.gens s.os → Heap.SameBut f.L s.heap h' → Q () { s with heap := h', toks := s.toks + 1 }) : wpAny c.M f.A (storeName f.env (Str.ofString x) v) Q E s := by
  refine wpAny_storeName_local (env := f.env) hl C.ns (fun h' hns hsb => k h' ?_ hsb) ?_
  · have x := Heap.SameBut.extBut hsb
    have ht : ∀ a items, IsTup s.heap a items → a ≠ f.L := fun a items t => not_tup_ns C.ns t
    obtain ⟨Sf, ⟨k, v, n, fd⟩, acc, li⟩ := id C.st
    obtain ⟨its, n', t, u, k', e1, _, e3⟩ := id acc
    obtain ⟨its2, ⟨n2, e4⟩, _⟩ := id li
    have a1 : o.AC ≠ f.L := ns_ne C.ns e1 (by simp)
    have a2 : o.LI ≠ f.L := ns_ne C.ns e4 (by simp)
    have a3 : o.F ≠ f.L := ns_ne C.ns Sf (by simp)
    obtain ⟨ps1, p1, _⟩ := C.w.t1
    obtain ⟨ps2, p2, _⟩ := C.w.t2
    have b1 : 147 ≠ f.L := ns_ne C.ns p1 (by simp)
    have b2 : 154 ≠ f.L := ns_ne C.ns p2 (by simp)
    have hb : c.h₀.get? f.L = none := by
      cases q : c.h₀.get? f.L with
      | none => rfl
      | some ob => have := C.b0 _ _ q; rw [C.fresh] at this; cases this
    exact ⟨C.kind, C.room, hns, ⟨x _ _ a3 Sf, ⟨k, v, n, x _ _ (Ne.symm C.nd.2) fd⟩, acc.but x a1 (Ne.symm C.nd.1) ht, li.but x a2⟩, C.w.but x hb b1 b2, fun b ob hb e => x _ _ (fun q => by rw [show b = f.L from q, C.fresh] at e; cases e) (C.pv b ob hb e), C.osE, C.fresh, C.b0, C.nd⟩
  · show (f.sc.kind == .class || (f.sc.kind == .module && _)) = false
    rw [C.kind]; rfl
theorem Cf.name {s : Shared} {x : String} {p : Pos} {v : Value} {E : Value → Shared → Prop} {Q : Value → Shared → Prop} (C : Cf c f o m ls cs s₀ s.heap s.gens s.os) (hl : f.sc.names.lookup (Str.ofString x) = some .local) (hx : m (Str.ofString x) = some v) (q : Q v s)
    (hd : (Str.ofString x == ("__debug__" : Str)) = false := by decide +kernel) : wpAny c.M f.A (eval (.Name (Str.ofString x) p) f.env) Q E s :=
  wpAny_Name (wpAny_loadName_local (env := f.env) C.kind hl C.ns hx q) hd
theorem tups_ne (C : Cf c f o m ls cs s₀ h g os) : ∀ a items, IsTup h a items → a ∉ o.mut := fun a items t => by
  obtain ⟨Sf, ⟨k, v, n, fd⟩, ⟨its, n', t', u, k', e1, _, e3⟩, ⟨its2, ⟨n2, e4⟩, _⟩⟩ := id C.st
  obtain ⟨ps1, p1, _⟩ := C.w.t1
  obtain ⟨ps2, p2, _⟩ := C.w.t2
  simp only [Ob.mut, List.mem_cons, List.not_mem_nil, or_false, not_or]
  exact ⟨not_tup t e4 (by simp), not_tup t e1 (by simp), not_tup t e3 (by simp), not_tup t p1 (by simp), not_tup t p2 (by simp)⟩
/-- the accumulator's items change -/
theorem Cf.ac {cs' : List Nat} {its' : Array Value} {n' : Nat} (C : Cf c f o m ls cs s₀ h g os) (hs : Heap.SameBut o.AC h h') (e : h'.get? o.AC = some (lsub 185 o.Ad its' n')) (q : All2 (ER h) (cs'.map partV) its'.toList) : Cf c f o m ls cs' s₀ h' g os := by
  have x := Heap.SameBut.extBut hs
  obtain ⟨d1, d2, d3, d4, d5, d6, d7, d8, d9⟩ := C.st.accLi
  obtain ⟨Sf, ⟨k, v, n, fd⟩, ⟨its, n0, t', u, k', e1, _, e3⟩, li⟩ := id C.st
  have ht : ∀ a items, IsTup h a items → a ≠ o.AC := fun a items t => not_tup t e1 (by simp)
  obtain ⟨ps1, p1, _⟩ := C.w.t1
  obtain ⟨ps2, p2, _⟩ := C.w.t2
  have b1 : 147 ≠ o.AC := ne_cls p1 e1 (by simp)
  have b2 : 154 ≠ o.AC := ne_cls p2 e1 (by simp)
  exact ⟨C.kind, C.room, C.ns.at' fun ob e => x _ _ (Ne.symm (ns_ne C.ns e1 (by simp))) e, ⟨x _ _ d4 Sf, ⟨k, v, n, x _ _ d7 fd⟩, ⟨its', n', t', u, k', e, q.mono fun _ _ => ER.but x ht, x _ _ (Ne.symm d2) e3⟩, li.but x d1⟩,
    C.w.but x (C.w.new _ (by simp [Ob.mut])) b1 b2, fun b ob hb e => x _ _ (fun q => hb (by rw [q]; simp [Ob.mut])) (C.pv b ob hb e), C.osE, C.fresh, C.b0, C.nd⟩
/-- its own dict changes -/
theorem Cf.ad {t u : Tok} {k : Nat} (C : Cf c f o m ls cs s₀ h g os) (hs : Heap.SameBut o.Ad h h') (e : h'.get? o.Ad = some (dictOf (adList c.w.params t u) k)) : Cf c f o m ls cs s₀ h' g os := by
  have x := Heap.SameBut.extBut hs
  obtain ⟨d1, d2, d3, d4, d5, d6, d7, d8, d9⟩ := C.st.accLi
  obtain ⟨Sf, ⟨k', v, n, fd⟩, ⟨its, n0, t', u', k0, e1, e2, e3⟩, li⟩ := id C.st
  have ht : ∀ a items, IsTup h a items → a ≠ o.Ad := fun a items t => not_tup t e3 (by simp)
  obtain ⟨ps1, p1, _⟩ := C.w.t1
  obtain ⟨ps2, p2, _⟩ := C.w.t2
  have b1 : 147 ≠ o.Ad := ne_cls p1 e3 (by simp)
  have b2 : 154 ≠ o.Ad := ne_cls p2 e3 (by simp)
  exact ⟨C.kind, C.room, C.ns.at' fun ob e => x _ _ C.nd.1 e, ⟨x _ _ d6 Sf, ⟨k', v, n, x _ _ d9 fd⟩, ⟨its, n0, t, u, k, x _ _ d2 e1, e2.mono fun _ _ => ER.but x ht, e⟩, li.but x d3⟩,
    C.w.but x (C.w.new _ (by simp [Ob.mut])) b1 b2, fun b ob hb e => x _ _ (fun q => hb (by rw [q]; simp [Ob.mut])) (C.pv b ob hb e), C.osE, C.fresh, C.b0, C.nd⟩
/-- the lines change -/
theorem Cf.li {ls' : List (List Nat)} (C : Cf c f o m ls cs s₀ h g os) (hs : Heap.SameBut o.LI h h') (e : LinesAt h' o.LI ls') : Cf c f o m ls' cs s₀ h' g os := by
  have x := Heap.SameBut.extBut hs
  obtain ⟨d1, d2, d3, d4, d5, d6, d7, d8, d9⟩ := C.st.accLi
  obtain ⟨Sf, ⟨k', v, n, fd⟩, acc, ⟨its2, ⟨n2, e4⟩, _⟩⟩ := id C.st
  have ht : ∀ a items, IsTup h a items → a ≠ o.LI := fun a items t => not_tup t e4 (by simp)
  obtain ⟨ps1, p1, _⟩ := C.w.t1
  obtain ⟨ps2, p2, _⟩ := C.w.t2
  have b1 : 147 ≠ o.LI := ne_cls p1 e4 (by simp)
  have b2 : 154 ≠ o.LI := ne_cls p2 e4 (by simp)
  exact ⟨C.kind, C.room, C.ns.at' fun ob e => x _ _ (Ne.symm (ns_ne C.ns e4 (by simp))) e, ⟨x _ _ d5 Sf, ⟨k', v, n, x _ _ d8 fd⟩, acc.but x (Ne.symm d1) (Ne.symm d3) ht, e⟩,
    C.w.but x (C.w.new _ (by simp [Ob.mut])) b1 b2, fun b ob hb e => x _ _ (fun q => hb (by rw [q]; simp [Ob.mut])) (C.pv b ob hb e), C.osE, C.fresh, C.b0, C.nd⟩
/-- a method's contract -/
noncomputable def MS (c : Cx) (n : Nat) (fa : Addr) (o : Ob) (ws : List Value) (ls : List (List Nat)) (cs : List Nat) (pre : Heap → Prop) (post : Value → Heap → List (List Nat) → List Nat → Prop) : Prop :=
  ∀ (A : Around) (s : Shared) (R : Result → Shared → Prop), Room A n → Wd c o s.heap s.gens → St c.w.params s.heap o ls cs → pre s.heap →
    (∀ w s' ls' cs', post w s'.heap ls' cs' → Wd c o s'.heap s'.gens → St c.w.params s'.heap o ls' cs' → (∀ b ob, b ∉ o.mut → s.heap.get? b = some ob → s'.heap.get? b = some ob) → s'.os = s.os → R (.ok (.ret w)) s') →
    codeAny c.M A (.call (.ref fa) ⟨ws, []⟩) R s
/-- a call, as the caller's frame sees it -/
theorem Cf.call {n : Nat} {fa : Addr} {ws : List Value} {pre : Heap → Prop} {post : Value → Heap → List (List Nat) → List Nat → Prop} (M : MS c n fa o ws ls cs pre post) (hn : n ≤ f.d) {s : Shared} {E : Value → Shared → Prop} {Q : Value → Shared → Prop}
    (C : Cf c f o m ls cs s₀ s.heap s.gens s.os) (hp : pre s.heap) (k : ∀ w s' ls' cs', post w s'.heap ls' cs' → Cf c f o m ls' cs' s₀ s'.heap s'.gens s'.os → (∀ b ob, b ∉ o.mut → s.heap.get? b = some ob → s'.heap.get? b = some ob) → Q w s') :
    wpAny c.M f.A (PySem.call (.ref fa) ws) Q E s := by
  have hm : f.L ∉ o.mut := by
    obtain ⟨Sf, ⟨k, v, n, fd⟩, ⟨its, n', t', u, k', e1, _, e3⟩, ⟨its2, ⟨n2, e4⟩, _⟩⟩ := id C.st
    obtain ⟨ps1, p1, _⟩ := C.w.t1
    obtain ⟨ps2, p2, _⟩ := C.w.t2
    simp only [Ob.mut, List.mem_cons, List.not_mem_nil, or_false, not_or]
    exact ⟨Ne.symm (ns_ne C.ns e4 (by simp)), Ne.symm (ns_ne C.ns e1 (by simp)), C.nd.1, Ne.symm (ns_ne C.ns p1 (by simp)), Ne.symm (ns_ne C.ns p2 (by simp))⟩
  refine wpAny_call (M f.A s _ ⟨C.room.handled, by have := C.room.depth; omega, by have := C.room.units; omega⟩ C.w C.st hp fun w s' ls' cs' hq W S kp ho => ?_)
  exact k w s' ls' cs' hq ⟨C.kind, C.room, C.ns.at' fun ob e => kp _ _ hm e, S, W, fun b ob hb e => kp _ _ hb (C.pv b ob hb e), ho.trans C.osE, C.fresh, C.b0, C.nd⟩ kp
end
end
section
open _root_.PySem _root_.PySem.W _root_.PySem.Calls _root_.PyProof.Rows _root_.PySem.Builtin _root_.PySem.Builtin.ObjectAttr _root_.PySem.Builtin.List
set_option linter.unusedVariables false
set_option linter.deprecated false
set_option maxRecDepth 100000
section
variable {c : Cx} {o : Ob} {ls : List (List Nat)} {cs : List Nat}
noncomputable def PF (post : Value → Heap → List (List Nat) → List Nat → Prop) : Flow → Heap → List (List Nat) → List Nat → Prop
  | .ret v => post v
  | .next => post .none
  | _ => fun _ _ _ => False
/-- a body's contract -/
noncomputable def CB (c : Cx) (f : Fm) (o : Ob) (m : Str → Option Value) (ls : List (List Nat)) (cs : List Nat) (body : List Stmt) (pre : Heap → Prop) (P : Flow → Heap → List (List Nat) → List Nat → Prop) : Prop :=
  ∀ (s₀ s : Shared) (E : Value → Shared → Prop) (Q : Flow → Shared → Prop), Cf c f o m ls cs s₀ s.heap s.gens s.os → pre s.heap →
    (∀ fl s' m' ls' cs', P fl s'.heap ls' cs' → Cf c f o m' ls' cs' s₀ s'.heap s'.gens s'.os → Q fl s') → wpAny c.M f.A (execs body f.env) Q E s
theorem MS.intro {n : Nat} {fa : Addr} {ws : List Value} {pre : Heap → Prop} {post : Value → Heap → List (List Nat) → List Nat → Prop} (ok : c.Ok) {name qual : Str} {params : Arguments} {body : List Stmt} {scope : Scope} {dV kV doc pm cdv ct oc : Value} {an od : Option Addr} {osl : Array (Option Value)} {xs : List String} {vs : List Value}
    (ho : c.K.lookup fa = some ⟨oc, od, .func (fnOf name qual params body scope dV kV doc pm an cdv ct), osl⟩) (hcd : codeIn c.K cdv qual = true)
    (hbind : ∀ s : Shared, Wd c o s.heap s.gens → BindsTo s (fnOf name qual params body scope dV kV doc pm an cdv ct) ⟨ws, []⟩ ((xs.map Str.ofString).zip vs))
    (hl : ∀ x ∈ xs, scope.names.lookup (Str.ofString x) = some .local)
    (hcell : ∀ x ∈ scope.names, x.2 ≠ .cell) (hpre : ∀ h h', Ext h h' → pre h → pre h')
    (h : ∀ f : Fm, CB c (fmG scope [] f.func cdv n f) o (fun x => ((xs.map Str.ofString).zip vs).reverse.lookup x) ls cs body pre (PF post))
    (hco : scope.isCoroutine = false := by rfl) (hgen : scope.isGenerator = false := by rfl) (hk : scope.kind = .function := by rfl) : MS c (n + 1) fa o ws ls cs pre post := by
  intro A s R hr W S hp k
  generalize hbd : (xs.map Str.ofString).zip vs = binds at *
  have hl : ∀ y ∈ binds, scope.names.lookup y.1 = some .local := by
    intro y hy
    rw [← hbd] at hy
    obtain ⟨x, hx', e⟩ := List.mem_map.mp (List.of_mem_zip hy).1
    rw [← e]; exact hl x hx'
  refine codeAny_call_def (fd := fnOf name qual params body scope dV kV doc pm an cdv ct) (binds := binds) hr.lt (W.base _ _ (ok.k _ _ ho)) rfl (ok.nolimit.keeps W.base) ((codeRec_of ok.k hcd).keeps W.base) rfl
    (hbind s W) hcell hl (fun h₁ hns hk₁ => ?_) hco hgen hk
  have x₁ : Ext s.heap h₁ := hk₁
  let f : Fm := { sc := scope, L := s.heap.objs.size, cells := [], qual := qual ++ ".<locals>.", func := some fa, code := cdv, frame := some s.heap.objs.size, A := A.deeper (callEnv (fnOf name qual params body scope dV kV doc pm an cdv ct) s.heap.objs.size fa), he := s.heap, d := n }
  obtain ⟨Sf, ⟨kk', v, nn, fd⟩, ⟨its, n', t', u, k', e1, _, e3⟩, _⟩ := id S
  have C : Cf c f o (fun x => binds.reverse.lookup x) ls cs s h₁ s.gens s.os :=
    ⟨hk, ⟨hr.handled, hr.depth1, hr.units1⟩, hns, S.ext x₁, W.ext x₁ W.bare, fun b ob _ e => x₁ _ _ e, rfl, fresh_size _, W.base,
      fun e => absurd (Heap.lt_size e3) (by rw [← e]; exact Nat.lt_irrefl _), fun e => absurd (Heap.lt_size fd) (by rw [← e]; exact Nat.lt_irrefl _)⟩
  refine (show CB c f o _ ls cs body pre (PF post) from h f) s { s with heap := h₁, toks := s.toks + binds.length } _ _ C (hpre _ _ x₁ hp) fun fl s' m' ls' cs' hq C' => ?_
  cases fl with
  | next => exact k _ s' ls' cs' hq C'.w C'.st C'.pv C'.osE
  | ret v => exact k v s' ls' cs' hq C'.w C'.st C'.pv C'.osE
  | brk => exact hq.elim
  | cont => exact hq.elim
end
section
variable {c : Cx} {f : Fm} {o : Ob} {m : Str → Option Value} {ls : List (List Nat)} {cs : List Nat} {s₀ : Shared} {s : Shared} {E : Value → Shared → Prop}
theorem mro_A (P : Params) : mroIn (kk P) 185 (.type "list") = some true := by kernel_rfl
theorem mro_Am (P : Params) : mroIn (kk P) 185 (.type "module") = some false := by kernel_rfl
theorem seq_A (P : Params) : noSeq (kk P) 185 = true := by kernel_rfl
theorem ga_A (P : Params) : findIn (kk P) (.ref 185) "__getattribute__" = some (some (.builtin "list.__getattribute__")) := by kernel_rfl
theorem gt_A (P : Params) : findIn (kk P) (.ref 185) "__getattr__" = some none := by kernel_rfl
theorem gi_A (P : Params) : findIn (kk P) (.ref 185) "__getitem__" = some (some (.builtin "list.__getitem__")) := by kernel_rfl
theorem si_A (P : Params) : findIn (kk P) (.ref 185) "__setitem__" = some (some (.builtin "list.__setitem__")) := by kernel_rfl
theorem it_A (P : Params) : findIn (kk P) (.ref 185) "__iter__" = some (some (.builtin "list.__iter__")) := by kernel_rfl
theorem sa_A (P : Params) : findIn (kk P) (.ref 185) "__setattr__" = some (some (.builtin "object.__setattr__")) := by kernel_rfl
theorem app_A (P : Params) : findIn (kk P) (.ref 185) "append" = some (some (.builtin "list.append")) := by kernel_rfl
theorem inst_A {h : Heap} {AC Ad : Addr} {its : Array Value} {n k : Nat} {es : List DictEntry} (e1 : h.get? AC = some (lsub 185 Ad its n)) (e3 : h.get? Ad = some (dictOf es k)) : InstAt h AC (lsub 185 Ad its n) 185 (some (dictOf es k)) := ⟨e1, rfl, rfl, e3⟩
theorem inst_F {h : Heap} {F Fd : Addr} {k : Nat} {es : List DictEntry} (e1 : h.get? F = some (instObj 101 Fd)) (e3 : h.get? Fd = some (dictOf es k)) : InstAt h F (instObj 101 Fd) 101 (some (dictOf es k)) := ⟨e1, rfl, rfl, e3⟩
/-- self.append((fws, string)) -/
theorem push_spec (H : Here c) (n : Nat) (t1 t2 : Tok) (ch : Nat) (hl : cs.length ≤ 1000) : MS c (n + 1) 129 o [.ref o.AC, .str ⟨#[]⟩ t1, .str ⟨#[ch]⟩ t2] ls cs (fun _ => True) fun v _ ls' cs' => v = .none ∧ ls' = ls ∧ cs' = cs ++ [ch] := by
  refine' MS.intro H.ok (xs := ["self", "fws", "string"]) (vs := [.ref o.AC, .str ⟨#[]⟩ t1, .str ⟨#[ch]⟩ t2]) ?ho ?hcd ?hbind ?hl ?hcell ?hpre ?h ?hco ?hgen ?hk
  case ho => rw [H.K]; with_unfolding_all rfl
  case hcd => rw [H.K]; kernel_rfl
  case hbind => intro s W; exact BindsTo.of_eq (by with_unfolding_all rfl)
  case hl => decide
  case hcell => decide
  case hpre => intros; trivial
  case hco => rfl
  case hgen => rfl
  case hk => rfl
  case h =>
    intro f
    rintro s₀ s E Q C - k
    refine wpAny_execs_cons (wpAny_Expr_any ?_)
    refine MethodCall_ (C.name rfl rfl ?_)
    obtain ⟨its, n', t, u, kx, e1, e2, e3⟩ := C.st.acc
    have X := C.X H.ok
    rw [H.K] at X
    refine method_lstB X (inst_A e1 e3) (ga_A _) (gt_A _) (app_A _) type_list_append (by kernel_rfl) ?_
    refine callWith_method1 ?_
    refine wpAny_items_cons (wpAny_Tuple (wpAny_items_cons (C.name rfl rfl ?_) rfl)) rfl
    refine wpAny_items_cons (C.name rfl rfl (wpAny_items_nil ?_)) rfl
    refine ⟨by rw [sizeLine_eq]; simp, wpAny_items_nil ?_⟩
    have x₁ := Ext.push s.heap { cls := .type "tuple", data := .seq #[.str ⟨#[]⟩ t1, .str ⟨#[ch]⟩ t2] }
    have hsz : its.size = cs.length := by have := e2.length; simpa using this.symm
    refine over_append (K := kk c.w.params) (s := { s with heap := s.heap.push _ }) (X.keeps x₁) (x₁ _ _ e1) (inst_A (x₁ _ _ e1) (x₁ _ _ e3)) (mro_A _) (fun h' n'' e' hs => ?_) (by omega)
    refine wpAny_execs_nil ?_
    refine k .next { s with heap := h' } _ ls (cs ++ [ch]) ⟨rfl, rfl, rfl⟩ ((C.ext x₁ C.w.bare rfl).ac hs e' ?_)
    rw [Array.toList_push, List.map_append]
    refine (e2.mono fun _ _ => ER.mono x₁).append ⟨⟨_, _, rfl, ⟨_, Heap.get?_push_size _ rfl, rfl, 0, rfl⟩, ⟨_, rfl⟩, ⟨_, rfl⟩, trivial⟩, trivial⟩
end
end
section
open _root_.PySem _root_.PySem.W _root_.PySem.Calls _root_.PyProof.Rows _root_.PySem.Builtin _root_.PySem.Builtin.ObjectAttr _root_.PySem.Builtin.List
set_option linter.unusedVariables false
set_option linter.deprecated false
set_option maxRecDepth 100000
section
variable {c : Cx} {o : Ob} {ls : List (List Nat)} {cs : List Nat}
noncomputable abbrev cells9 : List (Str × Addr) := [("__class__", 109)]
/-- a body's contract, the activation known -/
noncomputable def CBat (c : Cx) (f : Fm) (o : Ob) (m : Str → Option Value) (ls : List (List Nat)) (cs : List Nat) (body : List Stmt) (pre : Heap → Prop) (P : Flow → Heap → List (List Nat) → List Nat → Prop) : Prop :=
  ∀ (s₀ s : Shared) (E : Value → Shared → Prop) (Q : Flow → Shared → Prop), Cf c f o m ls cs s₀ s.heap s.gens s.os → pre s.heap →
    (∀ fl s' m' ls' cs', P fl s'.heap ls' cs' → Cf c f o m' ls' cs' s₀ s'.heap s'.gens s'.os → Q fl s') → _root_.PySem.wpAt c.M f.A (.func body f.env) (execs body f.env) Q E s
theorem MS.introAt {n : Nat} {fa : Addr} {ws : List Value} {pre : Heap → Prop} {post : Value → Heap → List (List Nat) → List Nat → Prop} (ok : c.Ok) {name qual : Str} {params : Arguments} {body : List Stmt} {scope : Scope} {dV kV doc pm cdv ct oc : Value} {an od : Option Addr} {osl : Array (Option Value)} {xs : List String} {vs : List Value}
    (ho : c.K.lookup fa = some ⟨oc, od, .func (fnX name qual params body scope cells9 dV kV doc pm an cdv ct), osl⟩) (hcd : codeIn c.K cdv qual = true)
    (hbind : ∀ s : Shared, Wd c o s.heap s.gens → BindsTo s (fnX name qual params body scope cells9 dV kV doc pm an cdv ct) ⟨ws, []⟩ ((xs.map Str.ofString).zip vs))
    (hl : ∀ x ∈ xs, scope.names.lookup (Str.ofString x) = some .local)
    (hcell : ∀ x ∈ scope.names, x.2 ≠ .cell) (hpre : ∀ h h', Ext h h' → pre h → pre h')
    (h : ∀ f : Fm, CBat c (fmG scope cells9 (some fa) cdv n f) o (fun x => ((xs.map Str.ofString).zip vs).reverse.lookup x) ls cs body pre (PF post))
    (hco : scope.isCoroutine = false := by rfl) (hgen : scope.isGenerator = false := by rfl) (hk : scope.kind = .function := by rfl) : MS c (n + 1) fa o ws ls cs pre post := by
  intro A s R hr W S hp k
  generalize hbd : (xs.map Str.ofString).zip vs = binds at *
  have hl : ∀ y ∈ binds, scope.names.lookup y.1 = some .local := by
    intro y hy
    rw [← hbd] at hy
    obtain ⟨x, hx', e⟩ := List.mem_map.mp (List.of_mem_zip hy).1
    rw [← e]; exact hl x hx'
  refine ks_codeAny_call_defAt (fd := fnX name qual params body scope cells9 dV kV doc pm an cdv ct) (binds := binds) hr.lt (W.base _ _ (ok.k _ _ ho)) rfl (ok.nolimit.keeps W.base) ((codeRec_of ok.k hcd).keeps W.base) rfl
    (hbind s W) hcell hl (fun h₁ hns hk₁ => ?_) hco hgen hk
  have x₁ : Ext s.heap h₁ := hk₁
  let f : Fm := { sc := scope, L := s.heap.objs.size, cells := cells9, qual := qual ++ ".<locals>.", func := some fa, code := cdv, frame := some s.heap.objs.size, A := A.deeper (callEnv (fnX name qual params body scope cells9 dV kV doc pm an cdv ct) s.heap.objs.size fa), he := s.heap, d := n }
  obtain ⟨Sf, ⟨kk', v, nn, fd⟩, ⟨its, n', t', u, k', e1, _, e3⟩, _⟩ := id S
  have C : Cf c f o (fun x => binds.reverse.lookup x) ls cs s h₁ s.gens s.os :=
    ⟨hk, ⟨hr.handled, hr.depth1, hr.units1⟩, hns, S.ext x₁, W.ext x₁ W.bare, fun b ob _ e => x₁ _ _ e, rfl, fresh_size _, W.base,
      fun e => absurd (Heap.lt_size e3) (by rw [← e]; exact Nat.lt_irrefl _), fun e => absurd (Heap.lt_size fd) (by rw [← e]; exact Nat.lt_irrefl _)⟩
  refine (show CBat c f o _ ls cs body pre (PF post) from h f) s { s with heap := h₁, toks := s.toks + binds.length } _ _ C (hpre _ _ x₁ hp) fun fl s' m' ls' cs' hq C' => ?_
  cases fl with
  | next => exact k _ s' ls' cs' hq C'.w C'.st C'.pv C'.osE
  | ret v => exact k v s' ls' cs' hq C'.w C'.st C'.pv C'.osE
  | brk => exact hq.elim
  | cont => exact hq.elim
end
section
variable {c : Cx} {f : Fm} {o : Ob} {m : Str → Option Value} {ls : List (List Nat)} {cs : List Nat} {s₀ : Shared} {s : Shared} {E : Value → Shared → Prop}
theorem cls_A (P : Params) : ∃ cd, clsIn (kk P) 185 = some cd ∧ cd.mro = [.ref 185, .type "list", .type "object"] ∧ cd.qualname = "_Accumulator" ∧ cd.hasDict = true := ⟨_, by with_unfolding_all rfl, by kernel_rfl, by kernel_rfl, by kernel_rfl⟩
theorem isT_A (P : Params) : typeIn (kk P) (.ref 185) = some (.type "type") := by kernel_rfl
theorem cell_A (P : Params) : (kk P).lookup 109 = some ⟨.type "cell", none, .cell (some (.ref 185)), #[]⟩ := by kernel_rfl
theorem noSuper (P : Params) : nsIn (kk P) mainGlobals "super" = some none := by kernel_rfl
theorem Looks.lst {s : Shared} {prog : Program} {w : World} {AC Ad : Addr} {its : Array Value} {n : Nat} {od : Option Obj} {P : Params} (X : (kk P).In s.heap) (I : InstAt s.heap AC (lsub 185 Ad its n) 185 od) : Looks (model prog w) s.heap (isInstance (.ref AC) (.type "list")) true := I.type.andThen (looks_mroIn X (mro_A _))
/-- super() -/
theorem super_node (H : Here c) {body : List Stmt} {p0 p1 : Pos} {attr : Str} {whole : Sem Value} {fd : FuncData} {ar : Arg} {vs : Array Value} {tf : Tok} {oc ccl : Value} {fa cda : Addr} {od cdd : Option Addr} {osl ccs : Array (Option Value)} {Q : Value → Shared → Prop}
    (C : Cf c f o m ls cs s₀ s.heap s.gens s.os) (hP : (c.prog.main.file : Str) = "/claim/cut.py" ∧ (c.prog.main.scope.names.lookup ("super" : Str)).isSome = false)
    (hf : c.K.lookup fa = some ⟨oc, od, .func fd, osl⟩) (hp : (fd.params.posonlyargs ++ fd.params.args).head? = some ar) (hv : m ar.arg = some (.ref o.AC))
    (hcode : c.K.lookup cda = some ⟨ccl, cdd, .fields vs, ccs⟩) (hvs : vs[2]? = some (.str "/claim/cut.py" tf))
    (hcell : c.K.lookup 109 = some ⟨.type "cell", none, .cell (some (.ref 185)), #[]⟩)
    (hat : (attr == ("__class__" : Str)) = false) (hks : f.sc.names.lookup ("super" : Str) = some .globalImplicit) (hkc : f.sc.names.lookup ("__class__" : Str) = some .free) (hka : f.sc.names.lookup ar.arg = some .local)
    (hcl : f.cells = cells9) (hfu : f.func = some fa) (hco : f.code = .ref cda)
    (hboot : bootBuiltins "super" = some (.type "super"))
    (h : ∀ so h', h'.get? so = some { cls := .type "super", dict := none, data := .fields #[.ref 185, .ref o.AC, .ref 185], slots := #[] } → Ext s.heap h' → Q (.ref so) { s with heap := h' }) :
    _root_.PySem.wpAt c.M f.A (.func body f.env) (attributeBase (.Call (.Name "super" p0) [] [] p1) attr f.env whole) Q E s := by
  have ok := H.ok
  have X := C.X ok
  have X' := X
  rw [H.K] at X'
  obtain ⟨cd, hcd, hmro, _, _⟩ := cls_A c.w.params
  obtain ⟨its, n', t, u, kx, e1, e2, e3⟩ := C.st.acc
  have I := inst_A e1 e3
  obtain ⟨hh, g, d, t, os⟩ := s
  obtain ⟨oD, hD1, hD2⟩ : ∃ oD, hh.get? 185 = some oD ∧ oD.data = .cls cd := by
    unfold clsIn at hcd
    split at hcd
    · rename_i c d cd' sl ho
      cases hcd
      exact ⟨_, X' _ _ ho, rfl⟩
    · cases hcd
  refine ks_wpAt_super_base (env := f.env) hks hkc hat hfu (X _ _ hf) rfl hp hco (X _ _ hcode) rfl hvs (by rw [hP.1]; decide) hP.2 ?_
  refine ks_loadName_global C.kind hks (loadGlobal_builtin (env := f.env) (ok.g.keeps C.w.base) (ns_none_of ok.k ok.g (by rw [H.K]; exact noSuper _)) (ok.b.keeps C.w.base) ((ok.builtins _ (by decide +kernel)).trans hboot) ⟨rfl, ?_⟩)
  refine wpAny_loadName_free (env := f.env) C.kind hkc (by show f.cells.lookup _ = _; rw [hcl]; rfl) ⟨_, X _ _ hcell, rfl⟩ ?_
  refine wpAny_loadName_local (env := f.env) C.kind hka C.ns hv ?_
  refine ks_wpAny_isType_cls hD1 hD2 ⟨rfl, ?_⟩
  refine ks_wpAny_call_super hD1 hD2 e1 rfl (fun c e => by cases e) (looks_mroIn X' (by unfold mroIn; rw [hcd, Option.bind_some, hmro]; rfl)) (fun h' e k => ?_)
  exact h _ _ e k
end
end
section
open _root_.PySem _root_.PySem.W _root_.PySem.Calls _root_.PyProof.Rows _root_.PySem.Builtin _root_.PySem.Builtin.ObjectAttr _root_.PySem.Builtin.List
set_option linter.unusedVariables false
set_option linter.deprecated false
set_option maxRecDepth 100000
structure HereP (c : Cx) : Prop where
  H : Here c
  file : (c.prog.main.file : Str) = "/claim/cut.py"
  nosup : (c.prog.main.scope.names.lookup ("super" : Str)).isSome = false
  bmod : ∃ bm ob, BMod c.h₀ mainGlobals c.mg bm ob
  h1 : c.h₀.get? 147 = none
  h2 : c.h₀.get? 154 = none
theorem ty_len : typeOf (.builtin "list.__len__") = pure (.type "wrapper_descriptor") := by show builtinType _ = _; rw [builtinType_eq_fast]; kernel_rfl
theorem ty_init : typeOf (.builtin "list.__init__") = pure (.type "wrapper_descriptor") := by show builtinType _ = _; rw [builtinType_eq_fast]; kernel_rfl
theorem own_len : ".".intercalate ("list.__len__".cutAt '.').dropLast = "list" := by decide +kernel
theorem own_init : ".".intercalate ("list.__init__".cutAt '.').dropLast = "list" := by decide +kernel
section
variable {c : Cx} {f : Fm} {o : Ob} {m : Str → Option Value} {ls : List (List Nat)} {cs : List Nat} {s₀ : Shared} {s : Shared} {E : Value → Shared → Prop}
theorem callWith_bound {env : Env} {pos : Pos} {M : Model} {A : Around} {b x : Addr} {id k : String} {Q : Value → Shared → Prop} (hb : s.heap.get? b = some (boundB k id x)) (hk : k = "builtin_function_or_method" ∨ k = "method-wrapper") (h : wpAny M A (PySem.call (.ref b) []) Q E s) :
    wpAny M A (callWith pos (.ref b) [] (backTo pos (starEach [] env)) []) Q E s :=
  callWith_of (P := fun h => h.get? b = some (boundB k id x)) rfl (fun h' hb' => ⟨.machine, .inr (.inl rfl), fun A Q E s' kk q => by
    unfold keeperOf
    refine wpAny_bind (wpAny_load (kk _ _ hb') ?_)
    rcases hk with rfl | rfl <;> exact wpAny_pure q⟩) (evalArgs_nil3 ⟨hb, h⟩)
theorem plain_len : plainId "list.__len__" = true := by decide +kernel
theorem kind_len : builtinKind "list.__len__" = some .slot := by decide +kernel
theorem argl (x : Addr) : argsOk "list.__len__" ⟨[.ref x], []⟩ := args_list_len (.ref x)
theorem check_len {prog : Program} {w : World} {A : Around} {x : Addr} {Q : Unit → Shared → Prop} (q : Q () s) : wpAny (model prog w) A (checkBoundCall "list.__len__" ⟨[.ref x], []⟩) Q E s := by
  have h := @bound_check_slot prog w A E s x "list.__len__" [] Q kind_len
  have h2 := h (argl x) q
  exact h2
/-- return super().__len__() -/
theorem part_count_spec (H : HereP c) (n : Nat) : MS c (n + 1) 182 o [.ref o.AC] ls cs (fun _ => True) fun v _ ls' cs' => (∃ t, v = .int cs.length t) ∧ ls' = ls ∧ cs' = cs := by
  refine' MS.introAt H.H.ok (xs := ["self"]) (vs := [.ref o.AC]) ?ho ?hcd ?hbind ?hl ?hcell ?hpre ?h ?hco ?hgen ?hk
  case ho => rw [H.H.K]; with_unfolding_all rfl
  case hcd => rw [H.H.K]; kernel_rfl
  case hbind => intro s W; exact BindsTo.of_eq (by with_unfolding_all rfl)
  case hl => decide
  case hcell => decide
  case hpre => intros; trivial
  case hco => rfl
  case hgen => rfl
  case hk => rfl
  case h =>
    intro f
    rintro s₀ s E Q C - k
    obtain ⟨its, n', t, u, kx, e1, e2, e3⟩ := C.st.acc
    have X := C.X H.H.ok
    rw [H.H.K] at X
    obtain ⟨cd, hcd, hmro, hq, _⟩ := cls_A c.w.params
    refine ks_wpAt_execs_cons (ks_wpAt_Return_some (ks_wpAt_MethodCall ?_))
    refine' super_node H.H C ⟨H.file, H.nosup⟩ ?hf ?hp ?hv ?hcode ?hvs ?hcell (by decide +kernel) ?hks ?hkc ?hka rfl rfl rfl Boot.super ?_
    case hf => rw [H.H.K]; with_unfolding_all rfl
    case hp => exact rfl
    case hv => exact rfl
    case hcode => rw [H.H.K]; with_unfolding_all rfl
    case hvs => exact rfl
    case hcell => rw [H.H.K]; exact cell_A _
    case hks => kernel_rfl
    case hkc => kernel_rfl
    case hka => kernel_rfl
    intro so h' hso x₁
    have X₁ := X.keeps x₁
    have I₁ := inst_A (x₁ _ _ e1) (x₁ _ _ e3)
    have C₁ := C.ext x₁ C.w.bare rfl
    refine super_method (s := { s with heap := h' }) X₁ hso (ks_ne X₁ I₁ hcd) (by decide +kernel) (.of_peek X₁ (by kernel_rfl)) ty_len slot_wd_get.lookup (fun _ _ _ _ e q => call_wd_get (e ▸ Looks.lst X₁ I₁) ty_len own_len q) ?_
    have x₂ := Ext.push h' (boundB "method-wrapper" "list.__len__" o.AC)
    have e₁ := x₂ _ _ (x₁ _ _ e1)
    have hb : (h'.push (boundB "method-wrapper" "list.__len__" o.AC)).get? h'.objs.size = some (boundB "method-wrapper" "list.__len__" o.AC) := Heap.get?_push_size _ rfl
    refine callWith_bound (s := { s with heap := h'.push _, toks := _ }) hb (.inr rfl) ?_
    refine call_bound_b (id := "list.__len__") (k := "method-wrapper") (x := o.AC) (args := []) (s := { s with heap := h'.push (boundB "method-wrapper" "list.__len__" o.AC), toks := s.toks + 1 }) hb (.inr rfl) plain_len entry_list_len (fun A E Q q => check_len q) ?_
    refine body_len (s := { s with heap := h'.push _, toks := _ }) e₁ fun t => ?_
    have hsz : its.size = cs.length := by have := e2.length; simpa using this.symm
    refine k (.ret _) { s with heap := h'.push _, toks := _ } _ ls cs ⟨⟨t, by rw [hsz]⟩, rfl, rfl⟩ (C₁.ext x₂ C.w.bare rfl)
end
end
section
open _root_.PySem _root_.PySem.W _root_.PySem.Calls _root_.PyProof.Rows _root_.PySem.Builtin _root_.PySem.Builtin.ObjectAttr _root_.PySem.Builtin.List
set_option linter.unusedVariables false
set_option linter.deprecated false
set_option maxRecDepth 100000
section
variable {c : Cx} {f : Fm} {o : Ob} {m : Str → Option Value} {ls : List (List Nat)} {cs : List Nat} {s₀ : Shared} {s : Shared} {E : Value → Shared → Prop}
/-- a method of a class of the text's own -/
noncomputable def MethOf (P : Params) (C : Addr) (name : Str) (fa : Addr) : Prop :=
  findIn (kk P) (.ref C) name = some (some (.ref fa)) ∧ typeIn (kk P) (.ref fa) = some (.type "function") ∧ fnIn (kk P) fa = true
theorem keeper_fn {M : Model} {h : Heap} {P : Params} {fa : Addr} (X : (kk P).In h) (hf : fnIn (kk P) fa = true) : Looks M h (keeperOf (.ref fa)) .frame := by
  unfold fnIn at hf
  split at hf <;> try cases hf
  rename_i oc od fd osl ho
  intro A Q E s kk' q
  unfold keeperOf
  exact wpAny_bind (wpAny_load (kk' _ _ (X _ _ ho)) (wpAny_pure q))
theorem callWith_fn0 {env : Env} {pos : Pos} {M : Model} {A : Around} {P : Params} {fa x : Addr} {Q : Value → Shared → Prop} (X : (kk P).In s.heap) (hf : fnIn (kk P) fa = true) (h : wpAny M A (PySem.call (.ref fa) [.ref x]) Q E s) :
    wpAny M A (callWith pos (.ref fa) [.ref x] (backTo pos (starEach [] env)) []) Q E s :=
  callWith_of (P := fun h => (kk P).In h) rfl (fun h' X' => ⟨.frame, .inl rfl, keeper_fn X' hf⟩) (evalArgs_nil3 ⟨X, h⟩)
theorem callWith_fn {env : Env} {pos : Pos} {M : Model} {A : Around} {P : Params} {fa x : Addr} {e : Expr} {rest : List Expr} {Q : Value → Shared → Prop} (hf : fnIn (kk P) fa = true)
    (h : wpAny M A (spliced (backTo pos (starEach (e :: rest) env))) (fun vs s₁ => (kk P).In s₁.heap ∧ wpAny M A (PySem.call (.ref fa) (.ref x :: vs)) Q E s₁) E s)
    (he : starEach (e :: rest) env = (false, eval e env) :: starEach rest env := by rfl) (hplain : (backTo pos (starEach rest env)).any (·.1) = false := by rfl) :
    wpAny M A (callWith pos (.ref fa) [.ref x] (backTo pos (starEach (e :: rest) env)) []) Q E s := by
  rw [he] at h ⊢
  exact callWith_of (P := fun h => (kk P).In h) (by show ((false || (backTo pos (starEach rest env)).any (·.1)) || false) = false; rw [hplain]; rfl) (fun h' X' => ⟨.frame, .inl rfl, keeper_fn X' hf⟩) (evalArgs_plain h)
theorem Cf.KX (H : Here c) (C : Cf c f o m ls cs s₀ s.heap s.gens s.os) : (kk c.w.params).In s.heap := by
  have := C.X H.ok
  rwa [H.K] at this
theorem Cf.methA {name : Str} {fa : Addr} {pl : Sem Bool} {Q : Value × List Value → Shared → Prop} (H : Here c) (C : Cf c f o m ls cs s₀ s.heap s.gens s.os) (hm : MethOf c.w.params 185 name fa) (hs : (name == ("_initial_size" : Str)) = false) (h : Q (.ref fa, [.ref o.AC]) s) :
    wpAny c.M f.A (getMethod (.ref o.AC) name pl) Q E s := by
  obtain ⟨its, n', t, u, kx, e1, e2, e3⟩ := C.st.acc
  refine method_lst (C.KX H) (inst_A e1 e3) (ga_A _) (gt_A _) hm.1 hm.2.1 ?_ h
  have hs' : ((Value.str "_initial_size" t).isStr name) = false := by
    rw [isStr_of]
    show (("_initial_size" : Str) == name) = false
    rw [beq_eq_false_iff_ne] at hs ⊢
    exact fun e => hs e.symm
  unfold shadowIn
  show (lookIn name (dictOf (adList c.w.params t u) kx)).map _ = _
  unfold lookIn
  simp only [List.find?, hs', Bool.false_eq_true, if_false]
  rfl
theorem m_count (P : Params) : MethOf P 185 "part_count" 182 := ⟨by kernel_rfl, by kernel_rfl, by kernel_rfl⟩
theorem m_push (P : Params) : MethOf P 185 "push" 129 := ⟨by kernel_rfl, by kernel_rfl, by kernel_rfl⟩
theorem m_popf (P : Params) : MethOf P 185 "pop_from" 137 := ⟨by kernel_rfl, by kernel_rfl, by kernel_rfl⟩
theorem m_pop (P : Params) : MethOf P 185 "pop" 145 := ⟨by kernel_rfl, by kernel_rfl, by kernel_rfl⟩
theorem m_reset (P : Params) : MethOf P 185 "reset" 167 := ⟨by kernel_rfl, by kernel_rfl, by kernel_rfl⟩
theorem m_only (P : Params) : MethOf P 185 "is_onlyws" 174 := ⟨by kernel_rfl, by kernel_rfl, by kernel_rfl⟩
theorem plain_pop : plainId "list.pop" = true := by decide +kernel
theorem All2.snoc {α β : Type} {R : α → β → Prop} {x : α} : ∀ {l : List α} {m : List β}, All2 R (l ++ [x]) m → ∃ (m' : List β) (v : β), m = m' ++ [v] ∧ All2 R l m' ∧ R x v
  | [], [v], ⟨q, _⟩ => ⟨[], v, rfl, trivial, q⟩
  | [], [], q => q.elim
  | [], _ :: _ :: _, ⟨_, q⟩ => q.elim
  | _ :: _, [], q => q.elim
  | a :: l, y :: m, ⟨q1, q2⟩ => by
    obtain ⟨m', v, e, h1, h2⟩ := All2.snoc (l := l) (m := m) q2
    exact ⟨y :: m', v, by rw [e]; rfl, ⟨q1, h1⟩, h2⟩
theorem all_snoc {h : Heap} {cs : List Nat} {ch : Nat} {its : Array Value} (q : All2 (ER h) ((cs ++ [ch]).map partV) its.toList) : ∃ (its' : Array Value) (v : Value), its = its'.push v ∧ All2 (ER h) (cs.map partV) its'.toList ∧ ER h (partV ch) v := by
  rw [List.map_append, List.map_singleton] at q
  obtain ⟨m', v, e, h1, h2⟩ := All2.snoc q
  refine ⟨m'.toArray, v, ?_, by simpa using h1, h2⟩
  apply Array.toList_inj.mp
  simp [e]
theorem pop_spec (H : HereP c) (n : Nat) (ch : Nat) (hl : cs.length ≤ 1000) : MS c (n + 2) 145 o [.ref o.AC] ls (cs ++ [ch]) (fun _ => True) fun v h ls' cs' => ER h (partV ch) v ∧ ls' = ls ∧ cs' = cs := by
  refine' MS.introAt H.H.ok (xs := ["self"]) (vs := [.ref o.AC]) ?ho ?hcd ?hbind ?hl ?hcell ?hpre ?h ?hco ?hgen ?hk
  case ho => rw [H.H.K]; with_unfolding_all rfl
  case hcd => rw [H.H.K]; kernel_rfl
  case hbind => intro s W; exact BindsTo.of_eq (by with_unfolding_all rfl)
  case hl => decide
  case hcell => decide
  case hpre => intros; trivial
  case hco => rfl
  case hgen => rfl
  case hk => rfl
  case h =>
    intro f
    rintro s₀ s E Q C - k
    refine ks_wpAt_execs_cons (ks_wpAt_If (wpAt_of_wpAny (wpAny_isTrue_Compare1 (MethodCall_ (C.name rfl rfl ?_)) (by with_unfolding_all rfl))))
    refine C.methA H.H (m_count _) (by decide +kernel) ?_
    refine callWith_fn0 (C.KX H.H) (m_count _).2.2 ?_
    refine Cf.call (part_count_spec H n) (Nat.le_refl _) C trivial fun v s₁ ls' cs' hq C₁ kp => ?_
    obtain ⟨⟨t, rfl⟩, rfl, rfl⟩ := hq
    refine wpAny_Constant_int (PyProof.Rows.eq_int ?_)
    have e : (((cs ++ [ch]).length : Int) == 0) = false := by simp; omega
    refine wpAny_truthy_bool ?_
    rw [e]
    rw [if_neg Bool.false_ne_true]
    refine wpAt_of_wpAny (wpAny_execs_nil ?_)
    obtain ⟨its, n', t2, u, kx, e1, e2, e3⟩ := C₁.st.acc
    obtain ⟨its', v, rfl, q1, q2⟩ := all_snoc e2
    have X := C₁.KX H.H
    obtain ⟨cd, hcd, hmro, hq, _⟩ := cls_A c.w.params
    refine ks_wpAt_execs_cons (ks_wpAt_Return_some (ks_wpAt_MethodCall ?_))
    refine' super_node H.H C₁ ⟨H.file, H.nosup⟩ ?hf ?hp ?hv ?hcode ?hvs ?hcell (by decide +kernel) ?hks ?hkc ?hka rfl rfl rfl Boot.super ?_
    case hf => rw [H.H.K]; with_unfolding_all rfl
    case hp => exact rfl
    case hv => exact rfl
    case hcode => rw [H.H.K]; with_unfolding_all rfl
    case hvs => exact rfl
    case hcell => rw [H.H.K]; exact cell_A _
    case hks => kernel_rfl
    case hkc => kernel_rfl
    case hka => kernel_rfl
    intro so h' hso x₁
    have X₁ := X.keeps x₁
    have I₁ := inst_A (x₁ _ _ e1) (x₁ _ _ e3)
    have C₂ := C₁.ext x₁ C₁.w.bare rfl
    refine super_method (s := { s₁ with heap := h', toks := _ }) X₁ hso (ks_ne X₁ I₁ hcd) (by decide +kernel) (.of_peek X₁ (by kernel_rfl)) PySem.F.type_list_pop slot_md_get.lookup (fun _ _ _ _ e q => call_md_get (e ▸ Looks.lst X₁ I₁) PySem.F.type_list_pop q) ?_
    have x₂ := Ext.push h' (boundB "builtin_function_or_method" "list.pop" o.AC)
    have e₁ := x₂ _ _ (x₁ _ _ e1)
    have I₂ := inst_A e₁ (x₂ _ _ (x₁ _ _ e3))
    have hb : (h'.push (boundB "builtin_function_or_method" "list.pop" o.AC)).get? h'.objs.size = some (boundB "builtin_function_or_method" "list.pop" o.AC) := Heap.get?_push_size _ rfl
    refine callWith_bound (s := { s₁ with heap := h'.push _, toks := _ }) hb (.inl rfl) ?_
    refine call_bound_b (id := "list.pop") (k := "builtin_function_or_method") (x := o.AC) (args := []) (s := { s₁ with heap := h'.push (boundB "builtin_function_or_method" "list.pop" o.AC), toks := _ }) hb (.inl rfl) plain_pop PySem.F.entry_list_pop
      (fun A E Q q => bound_check_pop (s := { s₁ with heap := h'.push (boundB "builtin_function_or_method" "list.pop" o.AC), toks := _ }) (X₁.keeps x₂) I₂ (mro_Am _) hcd hq (isT_A _) q) ?_
    have hsz : its'.size = cs.length := by have := q1.length; simpa using this.symm
    refine body_pop (s := { s₁ with heap := h'.push (boundB "builtin_function_or_method" "list.pop" o.AC), toks := _ }) e₁ (fun h'' n'' e' hs => ?_) (by omega)
    have x₃ := x₁.trans x₂
    have C₃ := (C₂.ext x₂ C₁.w.bare rfl).ac hs e' (q1.mono fun _ _ => ER.mono x₃)
    refine k (.ret v) { s₁ with heap := h'', toks := _ } _ _ cs ⟨?_, rfl, rfl⟩ C₃
    have ht : ∀ a items, IsTup (h'.push (boundB "builtin_function_or_method" "list.pop" o.AC)) a items → a ≠ o.AC := fun a items t => not_tup t e₁ (by simp)
    exact ER.but (Heap.SameBut.extBut hs) ht (ER.mono x₃ q2)
end
end
section
open _root_.PySem _root_.PySem.W _root_.PySem.Calls _root_.PyProof.Rows _root_.PySem.Builtin _root_.PySem.Builtin.ObjectAttr _root_.PySem.Builtin.List
set_option linter.unusedVariables false
set_option linter.unusedSimpArgs false
set_option linter.deprecated false
set_option maxRecDepth 100000
section
variable {prog : Program} {w : World} {A : Around} {E : Value → Shared → Prop} {s : Shared} {K : Frag} {x C dx : Addr} {ox : Obj} {od : Option Obj} {name : Str} {its : Array Value} {n : Nat}
theorem over_tail {value slice : Expr} {i : Value} {ops : List Value} {id : String} {Q : Value → Shared → Prop} (X : K.In s.heap) (I : InstAt s.heap x ox C od)
    (hf : findIn K (.ref C) "__getitem__" = some (some (.builtin id))) (hg : wpAny (model prog w) A (getItem (.ref x) i) Q E s)
    (hs : subscripted slice false (.ref x) i = operate ops (getItem (.ref x) i)) : wpAny (model prog w) A (subscriptTail value slice (.ref x) i) Q E s := by
  unfold subscriptTail
  refine wpAny_bind ?_
  rw [getitemInPython_of_ne (by intro e; cases e)]
  unfold specialOf
  refine wpAny_bind (wpAny_bind (I.type.here ((looks_findIn X hf).here ?_)))
  have fin : wpAny (model prog w) A (subscripted slice false (.ref x) i) (fun r s₃ => wpAny (model prog w) A (letTemporaryGo value (.ref x) r >>= fun _ => pure r) Q E s₃) E s := by
    rw [hs]
    exact wpAny_operating (wpAny_mono hg (fun r s₃ h₃ => wpAny_bind (wpAny_letTemporaryGo (wpAny_pure h₃))) fun _ _ x => x)
  first
    | exact wpAny_pure (wpAny_bind fin)
    | exact wpAny_bind (wpAny_pure (wpAny_bind fin))
    | exact wpAny_bind fin
end
section
variable {c : Cx} {f : Fm} {o : Ob} {m : Str → Option Value} {ls : List (List Nat)} {cs : List Nat} {s₀ : Shared} {s : Shared} {E : Value → Shared → Prop}
theorem All2.drop {α β : Type} {R : α → β → Prop} : ∀ (i : Nat) {l : List α} {m : List β}, All2 R l m → All2 R (l.drop i) (m.drop i)
  | 0, _, _, q => q
  | _ + 1, [], [], _ => trivial
  | i + 1, _ :: _, _ :: _, ⟨_, q⟩ => All2.drop i q
  | _ + 1, [], _ :: _, q => q.elim
  | _ + 1, _ :: _, [], q => q.elim
theorem All2.take {α β : Type} {R : α → β → Prop} : ∀ (i : Nat) {l : List α} {m : List β}, All2 R l m → All2 R (l.take i) (m.take i)
  | 0, _, _, _ => trivial
  | _ + 1, [], [], _ => trivial
  | i + 1, _ :: _, _ :: _, ⟨p, q⟩ => ⟨p, All2.take i q⟩
  | _ + 1, [], _ :: _, q => q.elim
  | _ + 1, _ :: _, [], q => q.elim
theorem sbound (n i : Nat) (h : i ≤ n) : sliceBounds (some (i : Int)) none none n = ((i : Int), (n : Int), 1) := by
  simp only [sliceBounds]
  have h1 : ¬ ((i : Int) < 0) := by omega
  simp [h1]; omega
/-- popped = self[i:]; self[i:] = []; return popped -/
theorem popf_spec (H : Here c) (n : Nat) (i : Nat) (t0 : Tok) (hi : i ≤ cs.length) (hl : cs.length ≤ 1000) :
    MS c (n + 1) 137 o [.ref o.AC, .int i t0] ls cs (fun _ => True) fun v h ls' cs' => (∃ a its, v = .ref a ∧ h.PlainList a its ∧ All2 (ER h) ((cs.drop i).map partV) its.toList) ∧ ls' = ls ∧ cs' = cs.take i := by
  refine' MS.intro H.ok (xs := ["self", "i"]) (vs := [.ref o.AC, .int i t0]) ?ho ?hcd ?hbind ?hl ?hcell ?hpre ?h ?hco ?hgen ?hk
  case ho => rw [H.K]; with_unfolding_all rfl
  case hcd => rw [H.K]; kernel_rfl
  case hbind => intro s W; have X := W.X H.ok; rw [H.K] at X; exact kp_binds X (fun S => by with_unfolding_all rfl)
  case hl => decide
  case hcell => decide
  case hpre => intros; trivial
  case hco => rfl
  case hgen => rfl
  case hk => rfl
  case h =>
    intro f
    rintro s₀ s E Q C - k
    obtain ⟨its, n', t, u, kx, e1, e2, e3⟩ := C.st.acc
    have hsz : its.size = cs.length := by have := e2.length; simpa using this.symm
    have X := C.KX H
    refine wpAny_execs_cons (wpAny_Assign_Name (Subscript_ (C.name rfl rfl (wpAny_Slice ?_))))
    refine evalPart_some_step (C.name rfl rfl (evalPart_none_step (evalPart_none_step ?_)))
    have x₁ := Ext.push s.heap { cls := .type "slice", data := .fields #[.int i t0, .none, .none] }
    refine over_tail (K := kk c.w.params) (s := { s with heap := s.heap.push _ }) (X.keeps x₁) (inst_A (x₁ _ _ e1) (x₁ _ _ e3)) (gi_A _) ?_ rfl
    refine over_slice (K := kk c.w.params) (s := { s with heap := s.heap.push _ }) (X.keeps x₁) (x₁ _ _ e1) (inst_A (x₁ _ _ e1) (x₁ _ _ e3)) (mro_A _) (seq_A _) (gi_A _) (Heap.IsSliceOf.new ..) (.int _ _) .none .none (by simp) ?_ (by rw [sizeLine_eq]; omega)
    have x₂ := x₁.trans (Ext.push _ { cls := .type "list", data := .seq (slicePick its (some (i : Int)) none none) })
    have C₁ := C.ext x₂ C.w.bare rfl
    have hp : ((s.heap.push { cls := .type "slice", data := .fields #[.int i t0, .none, .none] }).push { cls := .type "list", data := .seq (slicePick its (some (i : Int)) none none) }).PlainList (s.heap.push { cls := .type "slice", data := .fields #[.int i t0, .none, .none] }).objs.size (slicePick its (some (i : Int)) none none) := ⟨0, Heap.get?_push_size _ rfl⟩
    have hq : All2 (ER ((s.heap.push { cls := .type "slice", data := .fields #[.int i t0, .none, .none] }).push { cls := .type "list", data := .seq (slicePick its (some (i : Int)) none none) })) ((cs.drop i).map partV) (slicePick its (some (i : Int)) none none).toList := by
      have e : (slicePick its (some (i : Int)) none none).toList = its.toList.drop i := by rw [slicePick_from its i (by omega)]
      rw [e, List.map_drop]
      exact (All2.drop i e2).mono fun _ _ => ER.mono x₂
    refine C₁.store (s := { s with heap := _ }) rfl fun h₃ C₃ hs₃ => ?_
    have xb := Heap.SameBut.extBut hs₃
    have htup : ∀ a items, IsTup ((s.heap.push { cls := .type "slice", data := .fields #[.int i t0, .none, .none] }).push { cls := .type "list", data := .seq (slicePick its (some (i : Int)) none none) }) a items → a ≠ f.L := fun a items t => not_tup_ns C₁.ns t
    have hp₃ : h₃.PlainList (s.heap.push { cls := .type "slice", data := .fields #[.int i t0, .none, .none] }).objs.size (slicePick its (some (i : Int)) none none) := by
      obtain ⟨nn, e⟩ := hp
      exact ⟨nn, xb _ _ (ns_ne C₁.ns e (by simp)) e⟩
    have hq₃ := hq.mono fun _ _ => ER.but xb htup
    obtain ⟨its₃, n₃, t₃, u₃, k₃, g1, g2, g3⟩ := C₃.st.acc
    have hsz₃ : its₃.size = cs.length := by have := g2.length; simpa using this.symm
    have X₃ := C₃.KX (s := { s with heap := h₃ }) H
    show wpAny _ _ (execs (_ :: _) _) _ _ _
    refine wpAny_execs_cons (wpAny_Assign_Subscript (wpAny_List (wpAny_items_nil ⟨by rw [sizeLine_eq]; simp, ?_⟩)))
    have y₁ := Ext.push h₃ { cls := .type "list", data := .seq #[] }
    refine Cf.name (s := { s with heap := h₃.push _, toks := _ }) (C₃.ext y₁ C.w.bare rfl) rfl rfl (wpAny_Slice ?_)
    refine evalPart_some_step (Cf.name (s := { s with heap := h₃.push _, toks := _ }) (C₃.ext y₁ C.w.bare rfl) rfl rfl (evalPart_none_step (evalPart_none_step ?_)))
    have y₂ := y₁.trans (Ext.push _ { cls := .type "slice", data := .fields #[.int i t0, .none, .none] })
    refine over_setSlice (vs := .none) (K := kk c.w.params) (s := { s with heap := (h₃.push _).push _, toks := _ }) (X₃.keeps y₂) (y₂ _ _ g1) (inst_A (y₂ _ _ g1) (y₂ _ _ g3)) (mro_A _) (seq_A _) (si_A _) (Heap.IsSliceOf.new ..) (.int _ _) .none (new := #[]) ?_ ?_ (fun h₄ n₄ out ho e₄ hs₄ => ?_) (by omega) (by simp)
    · exact ⟨_, Heap.get?_push_of_some _ (Heap.get?_push_size _ rfl), rfl, 0, rfl⟩
    · exact Nat.ne_of_lt (Heap.lt_size g1)
    have hout : out.toList = its₃.toList.take i := by
      rw [ho, sbound _ _ (by omega)]
      have m1 : max (i : Int) (its₃.size : Int) = (its₃.size : Int) := by omega
      simp only [m1]
      simp
    have C₄ := (C₃.ext y₂ C.w.bare rfl).ac hs₄ e₄ (cs' := cs.take i) (by rw [hout, List.map_take]; exact (All2.take i g2).mono fun _ _ => ER.mono y₂)
    refine wpAny_execs_cons (wpAny_Return_some (Cf.name (s := { s with heap := h₄, toks := _ }) C₄ rfl rfl ?_))
    refine k _ { s with heap := h₄, toks := _ } _ ls (cs.take i) ⟨⟨(s.heap.push { cls := .type "slice", data := .fields #[.int i t0, .none, .none] }).objs.size, slicePick its (some (i : Int)) none none, rfl, ?_, ?_⟩, rfl, rfl⟩ C₄
    · obtain ⟨nn, e⟩ := hp₃
      exact ⟨nn, (Heap.SameBut.extBut hs₄) _ _ (Nat.ne_of_gt (Nat.lt_trans (Heap.lt_size e1) (by rw [Heap.size_push]; exact Nat.lt_succ_self _))) (y₂ _ _ e)⟩
    · exact hq₃.mono fun _ _ y => ER.but (Heap.SameBut.extBut hs₄) (fun a items t => not_tup t (y₂ _ _ g1) (by simp)) (ER.mono y₂ y)
end
end
section
open _root_.PySem _root_.PySem.W _root_.PySem.Calls _root_.PyProof.Rows _root_.PySem.Builtin _root_.PySem.Builtin.ObjectAttr _root_.PySem.Builtin.List
set_option linter.unusedVariables false
set_option linter.unusedSimpArgs false
set_option linter.deprecated false
set_option maxRecDepth 100000
section
variable {c : Cx} {f : Fm} {o : Ob} {m : Str → Option Value} {ls : List (List Nat)} {cs : List Nat} {s₀ : Shared} {s : Shared} {E : Value → Shared → Prop}
theorem taker_A (P : Params) : takerIn (kk P) 185 "_initial_size" = some none := by kernel_rfl
theorem sbound0 (n : Nat) : sliceBounds none none none n = (0, (n : Int), 1) := by simp [sliceBounds]
/-- self._initial_size = 0 -/
theorem Cf.setSize {t : Tok} {Q : Unit → Shared → Prop} (H : Here c) (C : Cf c f o m ls cs s₀ s.heap s.gens s.os)
    (k : ∀ h' tk, Cf c f o m ls cs s₀ h' s.gens s.os → Heap.SameBut o.Ad s.heap h' → Q () { s with heap := h', toks := tk }) : wpAny c.M f.A (setAttr (.ref o.AC) "_initial_size" (.int 0 t)) Q E s := by
  obtain ⟨its, n', t1, u, kx, e1, e2, e3⟩ := C.st.acc
  obtain ⟨cd, hcd, hmro, hq, hdict⟩ := cls_A c.w.params
  have X := C.KX H
  refine set_inst (K := kk c.w.params) (od := dictOf (adList c.w.params t1 u) kx) (od' := dictOf (adList c.w.params t1 t) kx) (es := adList c.w.params t1 t) (n := kx) X (inst_A e1 e3) rfl hcd (by rw [hmro]; exact refuse_list _ _) (by rw [hmro]; decide) (sa_A _) (taker_A _) hdict ?_ ?_ rfl (by simp) fun h' hs e => ?_
  · unfold lookIn
    with_unfolding_all rfl
  · with_unfolding_all rfl
  · exact k h' _ (C.ad hs e) hs
theorem reset_two (H : Here c) {p1 p2 p3 p4 p5 p6 p7 p8 p9 : Pos} {kk' : Nat} {L : Addr} {new : Array Value} {cs' : List Nat} {Q : Flow → Shared → Prop} (C : Cf c f o m ls cs s₀ s.heap s.gens s.os)
    (hs1 : f.sc.names.lookup (Str.ofString "self") = some .local) (hs2 : f.sc.names.lookup (Str.ofString "startval") = some .local)
    (hm1 : m (Str.ofString "self") = some (.ref o.AC)) (hm2 : m (Str.ofString "startval") = some (.ref L)) (hL : s.heap.IsList L new) (hn : new.size ≤ 1000) (hl : cs.length ≤ 1000) (hq : All2 (ER s.heap) (cs'.map partV) new.toList)
    (k : ∀ h' tk, Cf c f o m ls cs' s₀ h' s.gens s.os → Q .next { s with heap := h', toks := tk })
    (hw1 : swapsWith (.Name (Str.ofString "startval") p4) (some (.Subscript (.Name (Str.ofString "self") p1) (.Slice none none none p2) p3)) p5.line f.env = pure false := by rfl)
    (hw2 : swapsWith (.Constant (.int 0) kk' p8) (some (.Attribute (.Name (Str.ofString "self") p6) (Str.ofString "_initial_size") p7)) p9.line f.env = pure false := by rfl) :
    wpAny c.M f.A (execs [.Assign [.Subscript (.Name (Str.ofString "self") p1) (.Slice none none none p2) p3] (.Name (Str.ofString "startval") p4) p5, .Assign [.Attribute (.Name (Str.ofString "self") p6) (Str.ofString "_initial_size") p7] (.Constant (.int 0) kk' p8) p9] f.env) Q E s := by
  obtain ⟨its, n', t, u, kx, e1, e2, e3⟩ := C.st.acc
  have hsz : its.size = cs.length := by have := e2.length; simpa using this.symm
  have X := C.KX H
  have hne : o.AC ≠ L := by
    rintro rfl
    obtain ⟨ob, ho, hc, _⟩ := hL
    rw [e1] at ho; cases ho; cases hc
  refine wpAny_execs_cons (wpAny_Assign_Subscript (C.name hs2 hm2 (C.name hs1 hm1 (wpAny_Slice (evalPart_none_step (evalPart_none_step (evalPart_none_step ?_)))))) hw1)
  have x₁ := Ext.push s.heap { cls := .type "slice", data := .fields #[.none, .none, .none] }
  refine over_setSlice (vs := .none) (K := kk c.w.params) (s := { s with heap := s.heap.push _ }) (X.keeps x₁) (x₁ _ _ e1) (inst_A (x₁ _ _ e1) (x₁ _ _ e3)) (mro_A _) (seq_A _) (si_A _) (Heap.IsSliceOf.new ..) .none .none (hL.push _) hne (fun h₄ n₄ out ho e₄ hs₄ => ?_) (by omega) hn
  have hout : out.toList = new.toList := by
    rw [ho, sbound0]
    have m1 : max (0 : Int) (its.size : Int) = (its.size : Int) := by omega
    simp only [m1]
    simp
  have C₄ := (C.ext x₁ C.w.bare rfl).ac hs₄ e₄ (cs' := cs') (by rw [hout]; exact hq.mono fun _ _ => ER.mono x₁)
  refine wpAny_execs_cons (plainObj_wpAny_Assign_Attribute (wpAny_Constant_int ?_) hw2)
  refine Cf.name (s := { s with heap := h₄, toks := _ }) C₄ hs1 hm1 ?_
  refine Cf.setSize (s := { s with heap := h₄, toks := _ }) H C₄ fun h₅ tk C₅ _ => ?_
  exact wpAny_execs_nil (k h₅ tk C₅)
/-- reset() -/
theorem reset0_spec (H : Here c) (n : Nat) (hl : cs.length ≤ 1000) : MS c (n + 1) 167 o [.ref o.AC] ls cs (fun _ => True) fun v _ ls' cs' => v = .none ∧ ls' = ls ∧ cs' = [] := by
  refine' MS.intro H.ok (xs := ["self", "startval"]) (vs := [.ref o.AC, .none]) ?ho ?hcd ?hbind ?hl ?hcell ?hpre ?h ?hco ?hgen ?hk
  case ho => rw [H.K]; with_unfolding_all rfl
  case hcd => rw [H.K]; kernel_rfl
  case hbind => intro s W; have X := W.X H.ok; rw [H.K] at X; exact kp_binds X (fun S => by with_unfolding_all rfl)
  case hl => decide
  case hcell => decide
  case hpre => intros; trivial
  case hco => rfl
  case hgen => rfl
  case hk => rfl
  case h =>
    intro f
    rintro s₀ s E Q C - k
    refine wpAny_execs_cons (wpAny_If (wpAny_isTrue_Compare1 (C.name rfl rfl (wpAny_Constant_none (wpAny_is_self rfl (wpAny_truthy_bool ?_)))) (by with_unfolding_all rfl)))
    rw [if_pos rfl]
    refine wpAny_execs_cons (wpAny_Assign_Name (wpAny_List (wpAny_items_nil ⟨by rw [sizeLine_eq]; simp, ?_⟩)))
    have x₁ := Ext.push s.heap { cls := .type "list", data := .seq #[] }
    have C₁ := C.ext x₁ C.w.bare rfl
    refine Cf.store (s := { s with heap := s.heap.push _ }) C₁ rfl fun h₃ C₃ hs₃ => ?_
    refine wpAny_execs_nil ?_
    refine reset_two (s := { s with heap := h₃, toks := _ }) (L := s.heap.objs.size) (new := #[]) (cs' := []) H C₃ rfl rfl rfl rfl ?_ (by simp) hl trivial fun h' tk C' => ?_
    · have e : (s.heap.push { cls := .type "list", data := .seq #[] }).get? s.heap.objs.size = some { cls := .type "list", data := .seq #[] } := Heap.get?_push_size _ rfl
      exact ⟨_, (Heap.SameBut.extBut hs₃) _ _ (ns_ne C₁.ns e (by simp)) e, rfl, 0, rfl⟩
    · exact k .next { s with heap := h', toks := tk } _ ls [] ⟨rfl, rfl, rfl⟩ C'
/-- reset(remainder) -/
theorem reset1_spec (H : Here c) (n : Nat) (L : Addr) (new : Array Value) (cs' : List Nat) (hn : new.size ≤ 1000) (hl : cs.length ≤ 1000) :
    MS c (n + 1) 167 o [.ref o.AC, .ref L] ls cs (fun h => h.IsList L new ∧ All2 (ER h) (cs'.map partV) new.toList) fun v _ ls' cs'' => v = .none ∧ ls' = ls ∧ cs'' = cs' := by
  refine' MS.intro H.ok (xs := ["self", "startval"]) (vs := [.ref o.AC, .ref L]) ?ho ?hcd ?hbind ?hl ?hcell ?hpre ?h ?hco ?hgen ?hk
  case ho => rw [H.K]; with_unfolding_all rfl
  case hcd => rw [H.K]; kernel_rfl
  case hbind => intro s W; have X := W.X H.ok; rw [H.K] at X; exact kp_binds X (fun S => by with_unfolding_all rfl)
  case hl => decide
  case hcell => decide
  case hpre => rintro h h' x ⟨⟨ob, e, r⟩, q⟩; exact ⟨⟨ob, x _ _ e, r⟩, q.mono fun _ _ => ER.mono x⟩
  case hco => rfl
  case hgen => rfl
  case hk => rfl
  case h =>
    intro f
    rintro s₀ s E Q C ⟨p1, p2⟩ k
    refine wpAny_execs_cons (wpAny_If (wpAny_isTrue_Compare1 (C.name rfl rfl (wpAny_Constant_none (is_ref_none (wpAny_truthy_bool ?_)))) (by with_unfolding_all rfl)))
    rw [if_neg Bool.false_ne_true]
    refine wpAny_execs_nil ?_
    exact reset_two (L := L) (new := new) (cs' := cs') H C rfl rfl rfl rfl p1 hn hl p2 fun h' tk C' => k .next { s with heap := h', toks := tk } _ ls cs' ⟨rfl, rfl, rfl⟩ C'
end
end
section
open _root_.PySem _root_.PySem.W _root_.PySem.Calls _root_.PyProof.Rows _root_.PySem.Builtin _root_.PySem.Builtin.ObjectAttr _root_.PySem.Builtin.List
set_option linter.unusedVariables false
set_option linter.unusedSimpArgs false
set_option linter.deprecated false
set_option maxRecDepth 100000
section
variable {prog : Program} {w : World} {A : Around} {E : Value → Shared → Prop} {s : Shared} {K : Frag} {x C dx : Addr} {ox : Obj} {od : Option Obj} {name : Str} {its : Array Value} {n : Nat}
/-- an object with items in a row, whatever its class -/
noncomputable def IsSeq (h : Heap) (a : Addr) (items : Array Value) : Prop := ∃ o, h.get? a = some o ∧ ∃ n, o.data = .seq items n
/-- one turn of a list iterator over such an object -/
theorem seq_turn {it l : Addr} {i : Nat} {items : Array Value} {Q : Option Value → Shared → Prop} (hh : A.handled = none) (hit : s.heap.IsListIter it l i) (hl : IsSeq s.heap l items)
    (hQ : ∀ h', (∀ x, items[i]? = some x → h'.IsListIter it l (i + 1) → Heap.SameBut it s.heap h' → Q (some x) { s with heap := h' }) ∧
      (items[i]? = none → Heap.ExtBut it s.heap h' → Q none { s with heap := h' })) : wpAny (model prog w) A (pyNext (.ref it)) Q E s := by
  obtain ⟨⟨oc, odi, oda, osl⟩, ho, hc, hd⟩ := id hit
  obtain ⟨ol, hol, nl, hdl⟩ := hl
  dsimp only at hc hd
  subst hc hd
  have hn : (Value.ref l == Value.none) = false := rfl
  have f0 : (#[Value.ref l, Value.int i 0] : Array Value)[0]? = some (.ref l) := rfl
  have f1 : (#[Value.ref l, Value.int i 0] : Array Value)[1]? = some (.int i 0) := rfl
  unfold pyNext
  refine wpAny_bind (wpAny_attempt (wpAny_callSpecial?_slot hit.typeIs slot_listiter_next (wpAny_call_entry slot_listiter_next hit.typeIs entry_listiter_next ?_ (args_listiter_next _))))
  unfold Builtin.«list_iterator.__next__»
  repeat (first
    | (with_reducible refine wpAny_field ho rfl f0 ?_) | (with_reducible refine wpAny_field ho rfl f1 ?_) | (with_reducible refine wpAny_seqItems hol hdl ?_)
    | simp only [hn, Bool.false_eq_true, if_false, Int.toNat_natCast]
    | wp_step)
  rcases hx : items[i]? with _ | x
  · have hA : A.in1.handled = none := hh
    repeat (first | (with_reducible refine wpAny_setField ho rfl (by simp) ?_) | wp_step)
    unfold raiseNew
    repeat wp_step
    refine wpAny_of_eq isSubtype_stop (wpAny_pure ?_)
    exact (hQ _).2 hx (((Heap.SameBut.update ..).extBut.push _).push _)
  · exact wpAny_bind (wpAny_setField ho rfl (by simp) (wpAny_pure ⟨x, rfl, wpAny_pure ((hQ _).1 x hx ⟨_, Heap.get?_update_self _ ho rfl, rfl, rfl⟩ (Heap.SameBut.update ..))⟩))
/-- a list iterator at place j of a row of tuples -/
noncomputable abbrev RowAt (I ax : Addr) (items : Array Value) (Ts : Nat → Addr) (vals : Nat → Array Value) (j : Nat) (h : Heap) : Prop := h.IsListIter I ax j ∧ IsSeq h ax items ∧ ∀ k, k < items.size → h.IsTuple (Ts k) (vals k)
theorem IsSeq.at {h h' : Heap} {a : Addr} {items : Array Value} (x : IsSeq h a items) (k : ∀ o, h.get? a = some o → h'.get? a = some o) : IsSeq h' a items := let ⟨o, e, r⟩ := x; ⟨o, k o e, r⟩
theorem RowAt.move {I ax : Addr} {items : Array Value} {Ts : Nat → Addr} {vals : Nat → Array Value} {i j : Nat} {h h' : Heap} (r : RowAt I ax items Ts vals i h) (it : h'.IsListIter I ax j)
    (hx : ∀ o, h.get? ax = some o → h'.get? ax = some o) (ht : ∀ k, k < items.size → ∀ o, h.get? (Ts k) = some o → h'.get? (Ts k) = some o) : RowAt I ax items Ts vals j h' :=
  ⟨it, r.2.1.at hx, fun k hk => (r.2.2 k hk).at (ht k hk)⟩
theorem WalksU.seqOfTuples {I ax : Addr} (hh : A.handled = none) (hne : ax ≠ I) (items : Array Value) (Ts : Nat → Addr) (vals : Nat → Array Value)
    (hit : ∀ j, j < items.size → items[j]? = some (.ref (Ts j))) (hTI : ∀ j, j < items.size → Ts j ≠ I) :
    WalksU prog w A I (I :: ax :: (List.range items.size).map Ts) [I] items.size (fun j v => j < items.size ∧ v = vals j) (RowAt I ax items Ts vals)
      (fun j T h => (j < items.size ∧ T = Ts j) ∧ RowAt I ax items Ts vals (j + 1) h) := by
  have off : ∀ {b : Addr}, b ∉ [I] → b ≠ I := fun hb e => hb (List.mem_singleton.mpr e)
  have row : ∀ {k}, k < items.size → Ts k ∈ I :: ax :: (List.range items.size).map Ts := fun hk => .tail _ (.tail _ (List.mem_map_of_mem (List.mem_range.mpr hk)))
  constructor
  case sub => intro b hb; rw [List.mem_singleton.mp hb]; exact .head _
  case frame => intro j h h' r k; exact r.move (r.1.at (k I (.head _))) (k ax (.tail _ (.head _))) fun q hq => k _ (row hq)
  case item =>
    intro j s Q E hj r hQ
    refine seq_turn hh r.1 r.2.1 fun h' => ⟨fun x hx it sb => ?_, fun e => ?_⟩
    · rw [hit j hj] at hx
      cases hx
      have r' := r.move it (fun o e => sb.extBut _ _ hne e) fun q hq o e => sb.extBut _ _ (hTI q hq) e
      exact hQ _ _ h' s.toks ⟨hj, rfl⟩ (r'.2.2 j hj) ⟨⟨hj, rfl⟩, r'⟩ fun b o hb e => sb.extBut _ _ (off hb) e
    · rw [hit j hj] at e; cases e
  case go => intro _ _ _ _ _ s Q _ m hQ; exact wpAny_letOwnedTupleGo_listiter m.2.1 (hQ s.heap m.2 fun _ _ _ e => e)
  case apart => intro j T h m e; exact hTI j m.1.1 (m.1.2 ▸ List.mem_singleton.mp e)
  case done =>
    intro s Q E r hQ
    refine seq_turn hh r.1 r.2.1 fun h' => ⟨fun x hx => ?_, fun _ eb => hQ h' s.toks fun b o hb e => eb _ _ (off hb) e⟩
    rw [Array.getElem?_eq_none (Nat.le_refl _)] at hx; cases hx
  case self => intro _ _ _ _ r hQ; exact wpAny_pyIter_listiter r.1 hQ
theorem over_pyIter {Q : Value → Shared → Prop} (X : K.In s.heap) (I : InstAt s.heap x (lsub C dx its n) C od) (hm : mroIn K C (.type "list") = some true) (hf : findIn K (.ref C) "__iter__" = some (some (.builtin "list.__iter__")))
    (hQ : Q (.ref s.heap.objs.size) { s with heap := s.heap.push { cls := .type "list_iterator", data := .fields #[.ref x, .int 0 0] } }) : wpAny (model prog w) A (pyIter (.ref x)) Q E s := by
  unfold pyIter specialOf
  refine wpAny_bind (wpAny_bind (I.type.here ((looks_findIn X hf).here ?_)))
  unfold callSpecialIfBoundUnlessNone? bindSpecialIfBound? specialOf
  refine wpAny_bind (wpAny_holding (wpAny_bind (wpAny_bind (wpAny_bind (I.type.here ((looks_findIn X hf).here ?_))))))
  dsimp only
  rw [slot_list_iter.bind]
  refine wpAny_bind (wpAny_askSetting ?_)
  split
  · refine wpAny_bind (wpAny_pure (wpAny_pure ?_))
    dsimp only
    rw [if_neg (show ¬ ((Value.builtin "list.__iter__" == Value.none) = true) from Bool.false_ne_true)]
    refine wpAny_bind (over_iter X I.at_ I hm (wpAny_pure ?_))
    dsimp only
    refine wpAny_bind (wpAny_bind (wpAny_typeOf (T := "list_iterator") ⟨_, Heap.get?_push_size _ rfl, rfl⟩ (wpAny_of_eq slot_listiter_next.lookup ?_)))
    exact wpAny_pure hQ
  · refine wpAny_tryCatch (wpAny_bind (wpAny_pure (wpAny_pure ?_)))
    dsimp only
    rw [if_neg (show ¬ ((Value.builtin "list.__iter__" == Value.none) = true) from Bool.false_ne_true)]
    refine wpAny_bind (over_iter X I.at_ I hm (wpAny_pure ?_))
    dsimp only
    refine wpAny_bind (wpAny_bind (wpAny_typeOf (T := "list_iterator") ⟨_, Heap.get?_push_size _ rfl, rfl⟩ (wpAny_of_eq slot_listiter_next.lookup ?_)))
    exact wpAny_pure hQ
end
end
section
open _root_.PySem _root_.PySem.W _root_.PySem.Calls _root_.PyProof.Rows _root_.PySem.Builtin _root_.PySem.Builtin.ObjectAttr _root_.PySem.Builtin.List
set_option linter.unusedVariables false
set_option linter.unusedSimpArgs false
set_option linter.deprecated false
set_option maxRecDepth 100000
theorem hdL (P : Params) : codeHdIn (kk P) 151 147 = true := by kernel_rfl
theorem hdS (P : Params) : codeHdIn (kk P) 158 154 = true := by kernel_rfl
theorem TabOk.triples {pos : Pos} {ps : Array Value} (t : TabOk pos ps) : TriplesOk ps.toList := by
  rcases t with rfl | ⟨c', rfl⟩ <;> trivial
section
variable {prog : Program} {w : World} {A : Around} {E : Value → Shared → Prop} {s : Shared}
theorem genCode {env : Env} {cc P : Addr} {ps : Array Value} {pos : Pos} {qn : Str} {scope : Scope} {Q : Value → Shared → Prop} (hc : env.code = .ref cc) (hd : CodeHd s.heap cc P) (hP : s.heap.get? P = some (tabObj ps)) (ht : TabOk pos ps)
    (k : ∀ c' h' tk, Heap.ExtBut P s.heap h' → s.heap.objs.size ≤ h'.objs.size → (∃ ps', h'.get? P = some (tabObj ps') ∧ TabOk pos ps') → Q (.ref c') { s with heap := h', toks := tk }) :
    wpAny (model prog w) A (genexprCode env pos qn scope) Q E s := by
  rcases id ht with rfl | ⟨c', rfl⟩
  · refine wpAny_genexprCodeX (M := model prog w) hc (hd.code hP ht.triples) (hd.tab hP) rfl fun c' h' tk hx h1 h2 h3 _ h4 _ => ?_
    refine k c' h' tk hx (Nat.le_trans h1 (Nat.le_of_lt h2)) ⟨_, h4.2, .inr ⟨c', rfl⟩⟩
  · obtain ⟨o, vs, file, tf, flags, tg, inF, text, tt, e1, e2, e3, e4, e5, _⟩ := hd
    unfold genexprCode codeAt
    rw [hc, if_neg (show ¬ ((Value.ref cc == Value.none) = true) from Bool.false_ne_true)]
    refine wpAny_bind (wpAny_fieldsOf e1 e3 ?_)
    rw [e5]
    refine wpAny_bind (wpAny_fieldsOf hP rfl ?_)
    have hf : codeAmong pos (#[rawInt pos.line, rawInt pos.col, .ref c'] : Array Value).toList = some (.ref c') := by simp [codeAmong, rawInt]
    rw [hf]
    exact wpAny_pure (k c' s.heap s.toks (fun b o _ e => e) (Nat.le_refl _) ⟨_, hP, .inr ⟨c', rfl⟩⟩)
end
section
variable {c : Cx} {f : Fm} {o : Ob} {m : Str → Option Value} {ls : List (List Nat)} {cs : List Nat} {s₀ : Shared} {h h' : Heap} {g g' : Array GenState} {os os' : OsState}
theorem Cf.tab1 (C : Cf c f o m ls cs s₀ h g os) (x : Heap.ExtBut 147 h h') (t : ∃ ps, h'.get? 147 = some (tabObj ps) ∧ TabOk posL ps) (hb : c.h₀.get? 147 = none) (hg : AllBare g') (ho : os' = os) : Cf c f o m ls cs s₀ h' g' os' := by
  obtain ⟨Sf, ⟨k', v, n, fd⟩, acc, li⟩ := id C.st
  obtain ⟨its, n0, t', u', k0, e1, e2, e3⟩ := id acc
  obtain ⟨its2, ⟨n2, e4⟩, _⟩ := id li
  obtain ⟨ps1, p1, _⟩ := C.w.t1
  obtain ⟨ps2, p2, q2⟩ := C.w.t2
  have ht : ∀ a items, IsTup h a items → a ≠ 147 := fun a items t => not_tup t p1 (by simp)
  exact ⟨C.kind, C.room, C.ns.at' fun ob e => x _ _ (Ne.symm (ns_ne C.ns p1 (by simp))) e, ⟨x _ _ (ne_cls Sf p1 (by simp)) Sf, ⟨k', v, n, x _ _ (ne_cls fd p1 (by simp)) fd⟩, acc.but x (ne_cls e1 p1 (by simp)) (ne_cls e3 p1 (by simp)) ht, li.but x (ne_cls e4 p1 (by simp))⟩,
    ⟨fun b ob e => x _ _ (fun q => by rw [q, hb] at e; cases e) (C.w.base _ _ e), t, ⟨ps2, x _ _ (by decide) p2, q2⟩, hg, C.w.new⟩, fun b ob hb e => x _ _ (fun q => hb (by rw [q]; simp [Ob.mut])) (C.pv b ob hb e), ho.trans C.osE, C.fresh, C.b0, C.nd⟩
theorem Cf.tab2 (C : Cf c f o m ls cs s₀ h g os) (x : Heap.ExtBut 154 h h') (t : ∃ ps, h'.get? 154 = some (tabObj ps) ∧ TabOk posS ps) (hb : c.h₀.get? 154 = none) (hg : AllBare g') (ho : os' = os) : Cf c f o m ls cs s₀ h' g' os' := by
  obtain ⟨Sf, ⟨k', v, n, fd⟩, acc, li⟩ := id C.st
  obtain ⟨its, n0, t', u', k0, e1, e2, e3⟩ := id acc
  obtain ⟨its2, ⟨n2, e4⟩, _⟩ := id li
  obtain ⟨ps1, p1, q1⟩ := C.w.t1
  obtain ⟨ps2, p2, q2⟩ := C.w.t2
  have ht : ∀ a items, IsTup h a items → a ≠ 154 := fun a items t => not_tup t p2 (by simp)
  exact ⟨C.kind, C.room, C.ns.at' fun ob e => x _ _ (Ne.symm (ns_ne C.ns p2 (by simp))) e, ⟨x _ _ (ne_cls Sf p2 (by simp)) Sf, ⟨k', v, n, x _ _ (ne_cls fd p2 (by simp)) fd⟩, acc.but x (ne_cls e1 p2 (by simp)) (ne_cls e3 p2 (by simp)) ht, li.but x (ne_cls e4 p2 (by simp))⟩,
    ⟨fun b ob e => x _ _ (fun q => by rw [q, hb] at e; cases e) (C.w.base _ _ e), ⟨ps1, x _ _ (by decide) p1, q1⟩, t, hg, C.w.new⟩, fun b ob hb e => x _ _ (fun q => hb (by rw [q]; simp [Ob.mut])) (C.pv b ob hb e), ho.trans C.osE, C.fresh, C.b0, C.nd⟩
end
end
section
open _root_.PySem _root_.PySem.W _root_.PySem.Calls _root_.PyProof.Rows _root_.PySem.Builtin _root_.PySem.Builtin.ObjectAttr _root_.PySem.Builtin.List
set_option linter.unusedVariables false
set_option linter.unusedSimpArgs false
set_option linter.deprecated false
set_option maxRecDepth 100000
section
variable {c : Cx} {f : Fm} {o : Ob} {m : Str → Option Value} {ls : List (List Nat)} {cs : List Nat} {s₀ : Shared} {s : Shared} {E : Value → Shared → Prop}
theorem part_tup {h : Heap} {ch : Nat} {v : Value} (e : ER h (partV ch) v) : ∃ T t t', v = .ref T ∧ h.IsTuple T #[.str ⟨#[]⟩ t, .str ⟨#[ch]⟩ t'] := by
  obtain ⟨a, items, rfl, ⟨ob, ho, hc, n, hd⟩, q⟩ := e
  obtain ⟨l⟩ := items
  cases l with
  | nil => exact q.elim
  | cons x l =>
    cases l with
    | nil => exact q.2.elim
    | cons y l =>
      cases l with
      | nil =>
        obtain ⟨⟨t, hx⟩, ⟨t', hy⟩, _⟩ := q
        exact ⟨a, t, t', rfl, ob, ho, hc, n, by rw [hd, hx, hy]⟩
      | cons z l => exact q.2.2.elim
noncomputable def refAt : Option Value → Addr
  | some (.ref T) => T
  | _ => 0
noncomputable def seqAt : Option Obj → Array Value
  | some ⟨_, _, .seq vs _, _⟩ => vs
  | _ => #[]
/-- a generator over the accumulator's pairs -/
theorem gen_acc (H : HereP c) {elt : Expr} {pa pb pt pi pos : Pos} {kt : Nat} {scope : Scope} {cc P : Addr} {F : Nat → Value → Prop} {Q : Value → Shared → Prop} (C : Cf c f o m ls cs s₀ s.heap s.gens s.os)
    (hP : P = 147 ∨ P = 154) (hcd : codeHdIn (kk c.w.params) cc P = true) (hco : f.code = .ref cc) (hfc : f.cells = []) (ht : ∃ ps, s.heap.get? P = some (tabObj ps) ∧ TabOk pos ps)
    (hls : f.sc.names.lookup (Str.ofString "self") = some .local) (hms : m (Str.ofString "self") = some (.ref o.AC))
    (hsc : scope.isCoroutine = false) (hclos : closureFor scope f.env = pure []) (hcell : ∀ y ∈ scope.names, y.2 ≠ .cell) (h0 : scope.names.lookup (".0" : Str) = some NameKind.local)
    (hxa : scope.names.lookup (Str.ofString "fws") = some .local) (hxb : scope.names.lookup (Str.ofString "part") = some .local) (hkind : scope.kind = .function)
    (helt : ∀ (A' : Around) (E' : Value → Shared → Prop) (i ch : Nat) (t t' : Tok) (u : Shared) (m₂ : Str → Option Value) (C' : Addr) (code : Value), A'.handled = none → A'.depth ≤ f.A.depth + 1 → A'.units ≤ f.A.units + 8 → cs[i]? = some ch → u.heap.Ns C' m₂ →
      m₂ (Str.ofString "fws") = some (.str ⟨#[]⟩ t) → m₂ (Str.ofString "part") = some (.str ⟨#[ch]⟩ t') → Ext c.h₀ u.heap → wpAny c.M A' (eval elt (genEnv scope [] C' code builtinsNs f.env)) (fun y s₃ => F i y ∧ Keeps u s₃) E' u)
    (k : ∀ a s' K, s.heap.objs.size ≤ K + 1 → Gen c.prog c.w f.A K a cs.length (fun j y => ∃ i, (List.range cs.length)[j]? = some i ∧ F i y) s' → Heap.ExtBut P s.heap s'.heap → (∃ ps, s'.heap.get? P = some (tabObj ps) ∧ TabOk pos ps) → AllBare s'.gens → s'.os = s.os → Q (.ref a) s')
    (hs : ∀ x, genFold (.Name (Str.ofString "self") pi) f.env x = pure x := by intro _; rfl) :
    wpAny c.M f.A (eval (.GeneratorExp elt [⟨.Tuple [.Name (Str.ofString "fws") pa, .Name (Str.ofString "part") pb] kt pt, .Name (Str.ofString "self") pi, [], 0⟩] scope pos) f.env) Q E s := by
  obtain ⟨its, n', t, u, kx, e1, e2, e3⟩ := C.st.acc
  have hsz : its.size = cs.length := by have := e2.length; simpa using this.symm
  have X := C.KX H.H
  obtain ⟨ps, hps, hpt⟩ := ht
  obtain ⟨bm, ob, BM⟩ := H.bmod
  have hroom := C.room
  refine wpAny_GeneratorExp_walksQTD hroom.handled hsc hclos hcell h0 hxa hxb (by decide) hkind (by have := hroom.depth; omega) (C.name hls hms ?_) hs
  refine over_pyIter X (inst_A e1 e3) (mro_A _) (it_A _) ?_
  have x₁ := Ext.push s.heap { cls := .type "list_iterator", data := .fields #[.ref o.AC, .int 0 0] }
  have C₁ := C.ext x₁ C.w.bare rfl
  refine ⟨H.H.ok.nolimit.keeps C₁.w.base, ?_⟩
  refine genCode (s := { s with heap := s.heap.push _ }) (env := f.env) hco (codeHd_of_K (X.keeps x₁) hcd) (x₁ _ _ hps) hpt fun c' h₃ tk hx hge htab => ?_
  have pP : c.h₀.get? P = none := by rcases hP with rfl | rfl; exact H.h1; exact H.h2
  have b₃ : Ext c.h₀ h₃ := fun b ob e => hx _ _ (fun q => by rw [q, pP] at e; cases e) (C₁.w.base _ _ e)
  have BM₃ := BM.keeps b₃
  refine wpAny_builtinsFor BM₃.ns BM₃.name BM₃.ne BM₃.obj BM₃.cls BM₃.dict BM₃.data ?_
  let Ts : Nat → Addr := fun j => refAt its[j]?
  let vals : Nat → Array Value := fun j => seqAt (s.heap.get? (Ts j))
  have at_ : ∀ j, j < its.size → ∃ ch t t', cs[j]? = some ch ∧ its[j]? = some (.ref (Ts j)) ∧ s.heap.IsTuple (Ts j) (vals j) ∧ vals j = #[.str ⟨#[]⟩ t, .str ⟨#[ch]⟩ t'] := by
    intro j hj
    have hx : (its.toList)[j]? = some its[j] := by simp [hj]
    obtain ⟨v, hv, r⟩ := e2.get' hx
    rw [List.getElem?_map] at hv
    cases hc : cs[j]? with
    | none => rw [hc] at hv; cases hv
    | some ch =>
      rw [hc] at hv; cases hv
      obtain ⟨T, t, t', eT, hT⟩ := part_tup r
      have eT' : its[j]? = some (.ref T) := by simp [hj, eT]
      have e1 : Ts j = T := congrArg refAt eT'
      obtain ⟨ob, ho, hcl, n, hd⟩ := id hT
      have e2 : vals j = #[.str ⟨#[]⟩ t, .str ⟨#[ch]⟩ t'] := by
        obtain ⟨oc, od, oda, osl⟩ := ob
        dsimp only at hd
        subst hd
        show seqAt (s.heap.get? (Ts j)) = _
        rw [e1, ho]
        rfl
      exact ⟨ch, t, t', rfl, by rw [e1]; exact eT', by rw [e1, e2]; exact hT, e2⟩
  have hTlt : ∀ j, j < its.size → Ts j < s.heap.objs.size := fun j hj => by obtain ⟨_, _, _, _, _, ⟨_, ho, _⟩, _⟩ := at_ j hj; exact Heap.lt_size ho
  have hAC : o.AC < s.heap.objs.size := Heap.lt_size e1
  have up : ∀ b ob, b ≠ P → (s.heap.push { cls := .type "list_iterator", data := .fields #[.ref o.AC, .int 0 0] }).get? b = some ob → h₃.get? b = some ob := fun b ob hb e => hx b ob hb e
  have hI : (s.heap.push { cls := .type "list_iterator", data := .fields #[.ref o.AC, .int 0 0] }).get? s.heap.objs.size = some { cls := .type "list_iterator", data := .fields #[.ref o.AC, .int 0 0] } := Heap.get?_push_size _ rfl
  have hIP : s.heap.objs.size ≠ P := Nat.ne_of_gt (Heap.lt_size hps)
  have hACP : o.AC ≠ P := ne_cls e1 hps (by simp)
  have hTP : ∀ j, j < its.size → Ts j ≠ P := fun j hj => by
    obtain ⟨_, _, _, _, _, ⟨ob, ho, hcl, _⟩, _⟩ := at_ j hj
    exact ne_cls ho hps (by rw [hcl]; simp)
  have hge' : s.heap.objs.size + 1 ≤ h₃.objs.size := by have := hge; rw [show (s.heap.push { cls := .type "list_iterator", data := .fields #[.ref o.AC, .int 0 0] } : Heap).objs.size = s.heap.objs.size + 1 from Heap.size_push ..] at this; exact this
  refine ⟨s.heap.objs.size, s.heap.objs.size :: o.AC :: (List.range its.size).map Ts, [s.heap.objs.size], its.size, _, _, _, fun _ => true, F, rfl, fun A' hA => WalksU.seqOfTuples hA (Nat.ne_of_lt hAC) its Ts vals (fun j hj => (at_ j hj).choose_spec.choose_spec.choose_spec.2.1) (fun j hj => Nat.ne_of_lt (hTlt j hj)), ?pt, ?st, ?fp, H.H.ok.nolimit.keeps b₃, ?cst, ?quiet, ?last⟩
  case pt =>
    rintro i v ⟨hi, rfl⟩
    obtain ⟨ch, t, t', _, _, _, e⟩ := at_ i hi
    exact ⟨_, _, e⟩
  case st =>
    refine ⟨⟨_, up _ _ hIP hI, rfl, rfl⟩, ⟨_, up _ _ hACP (x₁ _ _ e1), _, rfl⟩, fun j hj => ?_⟩
    obtain ⟨ch, t, t', _, _, ⟨ob, ho, r⟩, e⟩ := at_ j hj
    exact ⟨ob, up _ _ (hTP j hj) (x₁ _ _ ho), r⟩
  case fp =>
    intro b hb
    rcases List.mem_cons.mp hb with rfl | hb
    · exact hge'
    · rcases List.mem_cons.mp hb with rfl | hb
      · exact Nat.lt_of_lt_of_le hAC (Nat.le_of_succ_le hge')
      · obtain ⟨j, hj, rfl⟩ := List.mem_map.mp hb
        exact Nat.lt_of_lt_of_le (hTlt j (List.mem_range.mp hj)) (Nat.le_of_succ_le hge')
  case cst =>
    intro hm
    have := List.mem_singleton.mp hm
    obtain ⟨_, hn, _⟩ := H.H.ok.nolimit.keeps C.w.base
    exact absurd (this ▸ hn.lt) (Nat.lt_irrefl _)
  case quiet =>
    intro href hh
    refine ⟨fun A' E' i va vb u m₂ _ _ _ _ _ _ _ _ => wpAny_pure ⟨rfl, u.heap, u.toks, rfl, fun _ _ e => e⟩, fun A' E' i va vb u m₂ hA hD hU hP' _ hn hma hmb hk => ?_⟩
    obtain ⟨hi, hv⟩ := hP'
    obtain ⟨ch, t, t', hc, _, _, e⟩ := at_ i hi
    rw [e] at hv
    obtain ⟨rfl, rfl⟩ : va = .str ⟨#[]⟩ t ∧ vb = .str ⟨#[ch]⟩ t' := by simpa using congrArg Array.toList hv
    refine helt A' E' i ch t t' u m₂ _ _ hA hD hU hc hn hma hmb fun b ob eb => ?_
    have hb3 := b₃ _ _ eb
    refine hk b (List.mem_range.mpr (Heap.lt_size hb3)) (fun hm => ?_) ob (hh _ _ hb3)
    have hbI := List.mem_singleton.mp hm
    have := C.w.base _ _ eb
    rw [hbI] at this
    exact absurd (Heap.lt_size this) (Nat.lt_irrefl _)
  case last =>
    intro a h₅ tk₅ gs hgb hag hsz₅ hk₅ W hat
    have hpass : passing (fun _ => true) its.size 0 = List.range its.size := by simp [passing]
    rw [hpass] at W
    rw [List.length_range] at W
    rw [hsz] at W hat
    have ext5 : Heap.ExtBut P s.heap h₅ := fun b ob hb e => hk₅ _ _ (hx _ _ hb (x₁ _ _ e))
    obtain ⟨ps', hp', ht'⟩ := htab
    refine k a _ (s.heap.objs.size - 1) (by omega) ⟨_, _, _, _, W, hat, (fun i s' st => st.1.typeIs), List.mem_cons_self, ?_, ?_⟩ ext5 ⟨ps', hk₅ _ _ hp', ht'⟩ (C.w.bare.push hgb) rfl
    · intro b hb
      show b < h₅.objs.size
      rw [hsz₅]
      rcases List.mem_cons.mp hb with rfl | hb
      · exact Nat.lt_succ_self _
      · rcases List.mem_cons.mp hb with rfl | hb
        · exact Nat.lt_succ_of_lt hag
        · exact Nat.lt_succ_of_lt (Nat.lt_trans (List.mem_range.mp hb) hag)
    · intro b hb
      have hpos : 0 < s.heap.objs.size := Nat.lt_of_le_of_lt (Nat.zero_le _) hAC
      rcases List.mem_cons.mp hb with rfl | hb
      · exact Nat.lt_of_lt_of_le (Nat.sub_lt hpos Nat.one_pos) (Nat.le_of_succ_le hge')
      · rcases List.mem_cons.mp hb with rfl | hb
        · exact Nat.sub_lt hpos Nat.one_pos
        · cases hb
end
end
section
open _root_.PySem _root_.PySem.W _root_.PySem.Calls _root_.PyProof.Rows _root_.PySem.Builtin _root_.PySem.Builtin.ObjectAttr _root_.PySem.Builtin.List
set_option linter.unusedVariables false
set_option linter.unusedSimpArgs false
set_option linter.deprecated false
set_option maxRecDepth 100000
theorem args_sum2 (a b : Value) : argsOk "sum" ⟨[a, b], []⟩ := by unfold argsOk; kernel_rfl
section
variable {prog : Program} {w : World} {A : Around} {E : Value → Shared → Prop} {s : Shared}
/-- sum(x, 0) -/
theorem call_sum_walk0 {x : Value} {t0 : Tok} {Q : Value → Shared → Prop}
    (h : wpAny (model prog w) A.in1 (pyIter x) (fun it s₂ => ∃ I fp wr G n P St val, it = .ref I ∧ WalksS prog w A.in1 I fp wr G n P St ∧ St 0 s₂ ∧ (∀ b ∈ fp, b < s₂.heap.objs.size) ∧
      (∀ i v, P i v → ∃ t, v = .int (val i) t) ∧ (∀ j, j < n → InLong (val j) ∧ InLong (preSum val (j + 1))) ∧
      ∀ s' t', Moved wr G s₂ s' → Q (.int (preSum val n) t') s') E s) :
    wpAny (model prog w) A (call (.builtin "sum") [x, .int 0 t0]) Q E s := by
  have e0 : Builtin.Builtins.bindParams "sum" ["start"] 0 ⟨[.int 0 t0], []⟩ = pure [some (.int 0 t0)] := rfl
  have k1 : ∀ t, typeOf (.int 0 t) = pure (.type "int") := fun _ => rfl
  have k2 := PySem.sub_int_str
  have k3 := PySem.sub_int_bytes
  have k4 := PySem.sub_int_bytearray
  refine call_function_tree PySem.F.kind_sum PySem.F.plain_sum PySem.F.entry_sum (args_sum2 _ _) ?_
  unfold Builtin.«sum»
  simp only [List.length_cons, List.length_nil]
  repeat (first | (with_reducible refine wpAny_of_eq e0 ?_) | (with_reducible refine wpAny_mono h ?_ fun _ _ e => e; rintro it s₂ ⟨I, fp, wr, G, n, P, St, val, rfl, W, hst, hfp, hval, hfit, hQ⟩) | (with_reducible refine wpAny_isInstance_val (k1 _) k2 ?_) | (with_reducible refine wpAny_isInstance_val (k1 _) k3 ?_)  | (with_reducible refine wpAny_isInstance_val (k1 _) k4 ?_) | simp only [List.forIn_cons, List.forIn_nil, Bool.false_eq_true, if_false] | wp_step)
  exact ⟨plainId_quiet PySem.F.plain_sum_loop _, codeAny_sum_loopS W val hval hfit _ (fun m => Nat.lt_irrefl _ (hfp _ m)) n 0 _ _ 0 rfl (Nat.zero_le _) (W.frame 0 s₂ _ _ hst (Nat.le_succ _) fun _ _ _ e => Heap.get?_push_of_some _ e)
    (Heap.get?_push_size _ rfl) fun s' t' hm => hQ s' t' (hm.drop_new (Nat.le_succ _))⟩
theorem sum_gen0 {K a : Addr} {n : Nat} {F : Nat → Value → Prop} {t0 : Tok} {Q : Value → Shared → Prop} (G : AllBare s.gens) (X : Gen prog w A K a n F s) (val : Nat → Int) (hval : ∀ j v, F j v → ∃ t, v = .int (val j) t) (hfit : ∀ j, j < n → InLong (val j) ∧ InLong (preSum val (j + 1)))
    (hQ : ∀ s' t', AllBare s'.gens → s'.os = s.os → (∀ b o, b ≤ K → s.heap.get? b = some o → s'.heap.get? b = some o) → Q (.int (preSum val n) t') s') : wpAny (model prog w) A (call (.builtin "sum") [.ref a, .int 0 t0]) Q E s := by
  obtain ⟨fp, wr, g, St, W, hst, -, -, below, above⟩ := X
  refine call_sum_walk0 (W.in4_1.self 0 _ _ _ hst ⟨a, fp, wr, _, n, _, St, val, rfl, W.in4_1, hst, below, hval, hfit, fun s' t' m => hQ s' t' (G.movedS m) m.os fun b o hb e => ?_⟩)
  exact m.heap b o (fun i => absurd (above b i) (Nat.not_lt.mpr hb)) e
end
section
variable {c : Cx} {f : Fm} {o : Ob} {m : Str → Option Value} {ls : List (List Nat)} {cs : List Nat} {s₀ : Shared} {s : Shared} {E : Value → Shared → Prop}
/-- len(x) of a name that holds a text, in any frame -/
theorem len_name (H : Here c) {env : Env} {A : Around} {u : Shared} {x : String} {p1 p2 p3 : Pos} {y : Str} {t : Tok} {m₂ : Str → Option Value} {Q : Value → Shared → Prop} (hk : env.scope.kind = .function) (hg : env.globals = mainGlobals) (hbi : env.builtins = builtinsNs)
    (hb : Ext c.h₀ u.heap) (hn : u.heap.Ns env.locals m₂) (hl : env.kindOf (Str.ofString x) = some .local) (hx : m₂ (Str.ofString x) = some (.str y t)) (hlen : env.kindOf (Str.ofString "len") = some .globalImplicit) (hy : y.length ≤ 100000)
    (hd : (Str.ofString x == ("__debug__" : Str)) = false) (q : ∀ t' tk, Q (.int y.length t') { u with toks := tk }) :
    wpAny c.M A (eval (.Call (.Name (Str.ofString "len") p1) [.Name (Str.ofString x) p2] [] p3) env) Q E u := by
  have ok := H.ok
  have bl := bi_len H
  refine Call_ (Name_function_global (env := env) hk hlen (loadGlobal_builtin (env := env) (by rw [hg]; exact ok.g.keeps hb) (ns_none_of ok.k ok.g bl.1) (by rw [hbi]; exact ok.b.keeps hb) ((ok.builtins _ bl.2.2.2.2).trans bl.2.1) ?_) bl.2.2.2.1)
  refine callWith_method1 (first := []) ?_
  refine wpAny_items_cons (wpAny_Name (wpAny_loadName_local (env := env) hk hl hn hx (wpAny_items_nil ?_)) hd) rfl
  exact PyProof.Rows.len_str (by omega) (q _ _)
end
end
section
open _root_.PySem _root_.PySem.W _root_.PySem.Calls _root_.PyProof.Rows _root_.PySem.Builtin _root_.PySem.Builtin.ObjectAttr _root_.PySem.Builtin.List
set_option linter.unusedVariables false
set_option linter.unusedSimpArgs false
set_option linter.deprecated false
set_option maxRecDepth 100000
section
variable {c : Cx} {f : Fm} {o : Ob} {m : Str → Option Value} {ls : List (List Nat)} {cs : List Nat} {s₀ : Shared} {s : Shared} {E : Value → Shared → Prop}
theorem find_size (P : Params) (t u : Tok) (k : Nat) : findObj (kk P) 185 (some (dictOf (adList P t u) k)) "_initial_size" = some (.value (.int 0 u)) := by kernel_rfl
theorem Cf.getSize {expr : Bool} {Q : Value → Shared → Prop} (H : Here c) (C : Cf c f o m ls cs s₀ s.heap s.gens s.os) (h : ∀ u, Q (.int 0 u) { s with toks := s.toks + 1 }) : wpAny c.M f.A (getAttr (.ref o.AC) "_initial_size" expr) Q E s := by
  obtain ⟨its, n', t, u, kx, e1, e2, e3⟩ := C.st.acc
  exact get_lst (C.KX H) (inst_A e1 e3) (ga_A _) (gt_A _) (mro_A _) (find_size _ _ _ _) rfl (h u)
theorem preSum_ones : ∀ n, preSum (fun _ => (1 : Int)) n = n
  | 0 => rfl
  | n + 1 => by rw [preSum, preSum_ones n]; omega
theorem Gen.tok {prog : Program} {w : World} {A : Around} {K a : Addr} {n : Nat} {F : Nat → Value → Prop} {s : Shared} {tk : Nat} (X : Gen prog w A K a n F s) (h : s.toks ≤ tk) : Gen prog w A K a n F { s with toks := tk } := by
  obtain ⟨fp, wr, g, St, W, h1, h2, h3, h4, h5⟩ := X
  exact ⟨fp, wr, g, St, W, W.frame 0 s s.heap tk h1 h fun _ _ _ e => e, h2, h3, h4, h5⟩
/-- len(self) -/
theorem lenA_spec (H : HereP c) (n : Nat) (hl : cs.length ≤ 1000) : MS c (n + 1) 152 o [.ref o.AC] ls cs (fun _ => True) fun v _ ls' cs' => (∃ t, v = .int cs.length t) ∧ ls' = ls ∧ cs' = cs := by
  refine' MS.intro H.H.ok (xs := ["self"]) (vs := [.ref o.AC]) ?ho ?hcd ?hbind ?hl ?hcell ?hpre ?h ?hco ?hgen ?hk
  case ho => rw [H.H.K]; with_unfolding_all rfl
  case hcd => rw [H.H.K]; kernel_rfl
  case hbind => intro s W; exact BindsTo.of_eq (by with_unfolding_all rfl)
  case hl => decide
  case hcell => decide
  case hpre => intros; trivial
  case hco => rfl
  case hgen => rfl
  case hk => rfl
  case h =>
    intro f
    rintro s₀ s E Q C - k
    have ok := H.H.ok
    have bs := bi_sum H.H
    refine wpAny_execs_cons (wpAny_Return_some ?_)
    refine Call_ (Name_function_global rfl (by kernel_rfl) (loadGlobal_builtin (ok.g.keeps C.w.base) (ns_none_of ok.k ok.g bs.1) (ok.b.keeps C.w.base) ((ok.builtins _ bs.2.2.2.2).trans bs.2.1) ?_) bs.2.2.2.1)
    refine callWith_method1 (first := []) ?_
    refine wpAny_items_cons ?_ rfl
    refine gen_acc (F := fun _ y => ∃ t, y = .int 1 t) H C (.inl rfl) (hdL _) rfl rfl C.w.t1 rfl rfl rfl rfl (by decide) rfl rfl rfl rfl ?_ ?_
    · intro A' E' i ch t t' u m₂ C' code hA hD hU hc hn h1 h2 hb
      refine wpAny_BinOp ?_
      refine len_name H.H (env := genEnv _ [] C' code builtinsNs _) rfl rfl rfl hb hn rfl h1 rfl (by simp [Str.length]) (by decide +kernel) fun t1 tk1 => ?_
      refine len_name (u := { u with toks := tk1 }) H.H (env := genEnv _ [] C' code builtinsNs _) rfl rfl rfl hb hn rfl h2 rfl (by simp [Str.length]) (by decide +kernel) fun t2 tk2 => ?_
      refine PyProof.Rows.add_int ?_
      refine ⟨⟨_, rfl⟩, u.heap, _, rfl, fun _ _ e => e⟩
    · intro a s' K hK G hx ht hg ho
      have C' : Cf c _ o _ ls cs s₀ s'.heap s'.gens s'.os := C.tab1 hx ht H.h1 hg ho
      refine wpAny_items_cons (Attribute_any_ (C'.name rfl rfl ?_)) rfl
      refine C'.getSize H.H fun u => wpAny_items_nil ?_
      refine sum_gen0 (s := { s' with toks := s'.toks + 1 }) hg (Gen.tok G (Nat.le_succ _)) (fun _ => 1) (fun j v hv => by obtain ⟨i, _, h⟩ := hv; exact h) (fun j hj => ?_) fun s'' t' hg' ho' hk' => ?_
      · rw [preSum_ones]
        constructor
        · constructor <;> decide
        · have : j + 1 ≤ 1000 := by omega
          constructor <;> omega
      · rw [preSum_ones]
        have hx' : Heap.ExtBut 147 s.heap s''.heap := fun b ob hb e => hk' b ob (Nat.le_of_lt_succ (Nat.lt_of_lt_of_le (Heap.lt_size e) hK)) (hx b ob hb e)
        obtain ⟨ps, hps, hpt⟩ := ht
        have C'' := C.tab1 (g' := s''.gens) (os' := s''.os) hx' ⟨ps, hk' _ _ (by obtain ⟨_, e, _⟩ := C.w.t1; exact Nat.le_of_lt_succ (Nat.lt_of_lt_of_le (Heap.lt_size e) hK)) hps, hpt⟩ H.h1 hg' (ho'.trans ho)
        exact k (.ret _) s'' _ ls cs ⟨⟨_, rfl⟩, rfl, rfl⟩ C''
end
end
section
open _root_.PySem _root_.PySem.W _root_.PySem.Calls _root_.PyProof.Rows _root_.PySem.Builtin _root_.PySem.Builtin.ObjectAttr _root_.PySem.Builtin.List
set_option linter.unusedVariables false
set_option linter.unusedSimpArgs false
set_option linter.deprecated false
set_option maxRecDepth 100000
section
variable {prog : Program} {w : World} {A : Around} {E : Value → Shared → Prop} {s : Shared}
/-- sep.join(generator), of texts that its places tell -/
theorem join_gen0 {K a : Addr} {n : Nat} {F : Nat → Value → Prop} {sep : Str} {t : Tok} {Q : Value → Shared → Prop} (G : AllBare s.gens) (X : Gen prog w A K a n F s) (tx : Nat → Str) (htx : ∀ j v, F j v → ∃ u, v = .str (tx j) u)
    (hok : JoinOk sep ((List.range n).map tx) = true)
    (hQ : ∀ s' t', AllBare s'.gens → s'.os = s.os → (∀ b o, b ≤ K → s.heap.get? b = some o → s'.heap.get? b = some o) → Q (.str (Txt.join sep ((List.range n).map tx)) t') s')
    (hsz : n ≤ sizeLine) : wpAny (model prog w) A (call (.builtin "str.join") [.str sep t, .ref a]) Q E s := by
  obtain ⟨fp, wr, g, St, W, hst, hT, ha, hfp, hwr⟩ := X
  refine SC.joinGen W.in4_2 hT hst hfp ha (fun j v hv => (htx j v hv).elim fun u e => ⟨_, u, e⟩) (fun s' lt hm hacc => ?_) hsz
  have len : lt.length = n := by simpa [strValues] using hacc.1
  have same : (List.range n).map tx = lt.map (·.1) := by
    refine List.ext_getElem (by simp [len]) fun j h1 h2 => ?_
    have hj : j < lt.length := by simpa using h2
    obtain ⟨u, e⟩ := htx j (.str lt[j].1 lt[j].2) (hacc.2 j _ (by simp [strValues, hj]))
    cases e' : lt[j] with | mk x y => rw [e'] at e; cases e; simp [e']
  have bare := G.movedS hm
  have ios := hm.os
  rw [← same]
  exact ⟨hok, fun t' k => hQ { s' with toks := k } t' bare ios fun b o hb e => hm.heap b o (fun m => absurd (hwr b m) (Nat.not_lt.mpr hb)) e⟩
end
theorem nsEmpty (P : Params) : ∃ t, nsIn (kk P) mainGlobals (Str.ofString "EMPTYSTRING") = some (some (.str ⟨#[]⟩ t)) := ⟨_, by with_unfolding_all rfl⟩
theorem glue_fold : ∀ (r : List Nat) (acc : Array Nat), (r.map fun c => (⟨#[c]⟩ : Str)).foldl (fun acc p => acc ++ (#[] : Array Nat) ++ p.cps) acc = acc ++ r.toArray
  | [], acc => by simp
  | a :: r, acc => by
    rw [List.map_cons, List.foldl_cons, glue_fold r]
    simp
theorem glue_signs : ∀ l : List Nat, Txt.join ⟨#[]⟩ (l.map fun c => (⟨#[c]⟩ : Str)) = ⟨l.toArray⟩
  | [] => rfl
  | a :: r => by
    show (⟨((r.map fun c => (⟨#[c]⟩ : Str))).foldl (fun acc p => acc ++ (#[] : Array Nat) ++ p.cps) #[a]⟩ : Str) = _
    rw [glue_fold]
    simp
theorem joinOk_signs {l : List Str} (h1 : ∀ y ∈ l, y.length ≤ 1) (h2 : l.length ≤ 1000) : JoinOk ⟨#[]⟩ l = true := by
  refine joinOk_of_weight ?_ (by decide)
  have : (l.map (·.length)).sum ≤ l.length := by
    clear h2
    induction l with
    | nil => simp
    | cons a r ih =>
      have := ih fun y hy => h1 y (.tail _ hy)
      have := h1 a (.head _)
      simp only [List.map_cons, List.sum_cons, List.length_cons]; omega
  omega
section
variable {c : Cx} {f : Fm} {o : Ob} {m : Str → Option Value} {ls : List (List Nat)} {cs : List Nat} {s₀ : Shared} {s : Shared} {E : Value → Shared → Prop}
/-- the global EMPTYSTRING, in any frame -/
theorem empty_name (H : Here c) {env : Env} {A : Around} {u : Shared} {p1 : Pos} {Q : Value → Shared → Prop} (hk : env.scope.kind = .function) (hg : env.globals = mainGlobals)
    (hb : Ext c.h₀ u.heap) (hl : env.kindOf (Str.ofString "EMPTYSTRING") = some .globalImplicit) (q : ∀ t, Q (.str ⟨#[]⟩ t) u) :
    wpAny c.M A (eval (.Name (Str.ofString "EMPTYSTRING") p1) env) Q E u := by
  have ok := H.ok
  obtain ⟨t, e⟩ := nsEmpty c.w.params
  exact Name_function_global (env := env) hk hl (loadGlobal_global (env := env) (by rw [hg]; exact ok.g.keeps hb) (mg_of ok.k ok.g (by rw [H.K]; exact e)) (q t)) (by decide +kernel)
/-- str(self) -/
theorem strA_spec (H : HereP c) (n : Nat) (hl : cs.length ≤ 1000) : MS c (n + 1) 159 o [.ref o.AC] ls cs (fun _ => True) fun v _ ls' cs' => (∃ t, v = .str ⟨cs.toArray⟩ t) ∧ ls' = ls ∧ cs' = cs := by
  refine' MS.intro H.H.ok (xs := ["self"]) (vs := [.ref o.AC]) ?ho ?hcd ?hbind ?hl ?hcell ?hpre ?h ?hco ?hgen ?hk
  case ho => rw [H.H.K]; with_unfolding_all rfl
  case hcd => rw [H.H.K]; kernel_rfl
  case hbind => intro s W; exact BindsTo.of_eq (by with_unfolding_all rfl)
  case hl => decide
  case hcell => decide
  case hpre => intros; trivial
  case hco => rfl
  case hgen => rfl
  case hk => rfl
  case h =>
    intro f
    rintro s₀ s E Q C - k
    refine wpAny_execs_cons (wpAny_Return_some (MethodCall_ (empty_name H.H rfl rfl C.w.base rfl fun t0 => GM.join (callWith_method1 ?_))))
    refine wpAny_items_cons ?_ rfl
    refine gen_acc (F := fun i y => ∃ ch t, cs[i]? = some ch ∧ y = .str ⟨#[ch]⟩ t) H C (.inr rfl) (hdS _) rfl rfl C.w.t2 rfl rfl rfl rfl (by decide) rfl rfl rfl rfl ?_ ?_
    · intro A' E' i ch t t' u m₂ C' code hA hD hU hc hn h1 h2 hb
      refine MethodCall_ (empty_name H.H (env := genEnv _ [] C' code builtinsNs _) rfl rfl hb rfl fun t1 => GM.join (callWith_method1 ?_))
      refine wpAny_items_cons (wpAny_Tuple (wpAny_items_cons (wpAny_Name (wpAny_loadName_local (env := genEnv _ [] C' code builtinsNs _) rfl rfl hn h1 ?_) (by decide +kernel)) rfl)) rfl
      refine wpAny_items_cons (wpAny_Name (wpAny_loadName_local (env := genEnv _ [] C' code builtinsNs _) rfl rfl hn h2 (wpAny_items_nil ?_)) (by decide +kernel)) rfl
      refine ⟨by rw [sizeLine_eq]; simp, wpAny_items_nil ?_⟩
      refine join_tupleW (ys := [⟨#[]⟩, ⟨#[ch]⟩]) (items := #[.str ⟨#[]⟩ t, .str ⟨#[ch]⟩ t']) ⟨_, Heap.get?_push_size _ rfl, rfl, 0, rfl⟩ (.cons _ _ (.cons _ _ .nil)) (by decide) (by simp [Str.length]) fun t2 kk2 => ?_
      refine ⟨⟨ch, t2, hc, ?_⟩, u.heap.push _, kk2, rfl, fun _ _ e => Heap.get?_push_of_some _ e⟩
      rfl
    · intro a s' K hK G hx ht hg ho
      refine wpAny_items_nil ?_
      refine join_gen0 hg G (fun j => ⟨#[cs.getD j 0]⟩) (fun j v hv => ?_) ?_ (fun s'' t' hg' ho' hk' => ?_) (by rw [sizeLine_eq]; omega)
      · obtain ⟨i, hi, ch, t, hc, rfl⟩ := hv
        have hij : i = j := by
          by_cases hj : j < cs.length
          · rw [List.getElem?_range hj] at hi; exact (Option.some.inj hi).symm
          · rw [List.getElem?_eq_none (by simpa using hj)] at hi; cases hi
        subst hij
        exact ⟨t, by simp [List.getD_eq_getElem?_getD, hc]⟩
      · exact joinOk_signs (by intro y hy; obtain ⟨j, _, rfl⟩ := List.mem_map.mp hy; simp [Str.length]) (by simpa using hl)
      · have hx' : Heap.ExtBut 154 s.heap s''.heap := fun b ob hb e => hk' b ob (Nat.le_of_lt_succ (Nat.lt_of_lt_of_le (Heap.lt_size e) hK)) (hx b ob hb e)
        obtain ⟨ps, hps, hpt⟩ := ht
        have C'' := C.tab2 (g' := s''.gens) (os' := s''.os) hx' ⟨ps, hk' _ _ (by obtain ⟨_, e, _⟩ := C.w.t2; exact Nat.le_of_lt_succ (Nat.lt_of_lt_of_le (Heap.lt_size e) hK)) hps, hpt⟩ H.h2 hg' (ho'.trans ho)
        have e : (List.range cs.length).map (fun j => (⟨#[cs.getD j 0]⟩ : Str)) = cs.map fun c => (⟨#[c]⟩ : Str) := by
          apply List.ext_getElem?
          intro j
          by_cases hj : j < cs.length
          · simp [List.getElem?_range hj, List.getD_eq_getElem?_getD, hj]
          · rw [List.getElem?_eq_none (by simpa using hj), List.getElem?_eq_none (by simpa using hj)]
        rw [e, glue_signs]
        exact k (.ret _) s'' _ ls cs ⟨⟨_, rfl⟩, rfl, rfl⟩ C''
end
end
section
open _root_.PySem _root_.PySem.W _root_.PySem.Calls _root_.PyProof.Rows _root_.PySem.Builtin _root_.PySem.Builtin.ObjectAttr _root_.PySem.Builtin.List
set_option linter.unusedVariables false
set_option linter.unusedSimpArgs false
set_option linter.deprecated false
set_option maxRecDepth 100000
section
variable {c : Cx} {f : Fm} {o : Ob} {m : Str → Option Value} {ls : List (List Nat)} {cs : List Nat} {s₀ : Shared} {s : Shared} {E : Value → Shared → Prop}
theorem Cf.lmut {h : Heap} {g : Array GenState} {os : OsState} (C : Cf c f o m ls cs s₀ h g os) : f.L ∉ o.mut := by
  obtain ⟨Sf, ⟨k, v, n, fd⟩, ⟨its, n', t', u, k', e1, _, e3⟩, ⟨its2, ⟨n2, e4⟩, _⟩⟩ := id C.st
  obtain ⟨ps1, p1, _⟩ := C.w.t1
  obtain ⟨ps2, p2, _⟩ := C.w.t2
  simp only [Ob.mut, List.mem_cons, List.not_mem_nil, or_false, not_or]
  exact ⟨Ne.symm (ns_ne C.ns e4 (by simp)), Ne.symm (ns_ne C.ns e1 (by simp)), C.nd.1, Ne.symm (ns_ne C.ns p1 (by simp)), Ne.symm (ns_ne C.ns p2 (by simp))⟩
theorem Cf.callAt {A : Around} {n : Nat} {fa : Addr} {ws : List Value} {pre : Heap → Prop} {post : Value → Heap → List (List Nat) → List Nat → Prop} (M : MS c n fa o ws ls cs pre post) (hA : Room A n) {s : Shared} {E : Value → Shared → Prop} {Q : Value → Shared → Prop}
    (C : Cf c f o m ls cs s₀ s.heap s.gens s.os) (hp : pre s.heap) (k : ∀ w s' ls' cs', post w s'.heap ls' cs' → Cf c f o m ls' cs' s₀ s'.heap s'.gens s'.os → (∀ b ob, b ∉ o.mut → s.heap.get? b = some ob → s'.heap.get? b = some ob) → Q w s') :
    wpAny c.M A (PySem.call (.ref fa) ws) Q E s := by
  have hm := C.lmut
  refine wpAny_call (M A s _ hA C.w C.st hp fun w s' ls' cs' hq W S kp ho => ?_)
  exact k w s' ls' cs' hq ⟨C.kind, C.room, C.ns.at' fun ob e => kp _ _ hm e, S, W, fun b ob hb e => kp _ _ hb (C.pv b ob hb e), ho.trans C.osE, C.fresh, C.b0, C.nd⟩ kp
theorem Room.in1 {A : Around} {n d : Nat} (r : Room A d) (h : n + 1 ≤ d) : Room A.in1 n := ⟨r.handled, by have := r.depth; show A.depth + 4 * n < _; omega, by have := r.units; show A.units + 1 + 40 * n < _; omega⟩
theorem m_len (P : Params) : MethOf P 185 "__len__" 152 := ⟨by kernel_rfl, by kernel_rfl, by kernel_rfl⟩
theorem m_str (P : Params) : MethOf P 185 "__str__" 159 := ⟨by kernel_rfl, by kernel_rfl, by kernel_rfl⟩
theorem no_bool (P : Params) : findIn (kk P) (.ref 185) "__bool__" = some none := by kernel_rfl
theorem Cf.lenBody {A : Around} (H : HereP c) {Q : Value → Shared → Prop} (C : Cf c f o m ls cs s₀ s.heap s.gens s.os) (hA : Room A 1) (hl : cs.length ≤ 1000)
    (k : ∀ t s', Cf c f o m ls cs s₀ s'.heap s'.gens s'.os → (∀ b ob, b ∉ o.mut → s.heap.get? b = some ob → s'.heap.get? b = some ob) → Q (.int cs.length t) s') :
    wpAny c.M A (Builtin.«len» ⟨[.ref o.AC], []⟩) (fun fin s' => ∃ v, fin = .done (.ret v) ∧ Q v s') E s := by
  obtain ⟨its, n', t, u, kx, e1, e2, e3⟩ := C.st.acc
  have X := C.KX H.H
  have I := inst_A e1 e3
  unfold Builtin.«len»
  refine wpAny_bind (m := oneArg "len" _) (wpAny_pure ?_)
  refine wpAny_bind (m := callSpecial? (.ref o.AC) (Str.ofString "__len__")) (special_fn X I (m_len _).1 (m_len _).2.1 ?_)
  refine C.callAt (lenA_spec H 0 hl) hA trivial fun v s' ls' cs' hq C' kp => ?_
  obtain ⟨⟨t, rfl⟩, rfl, rfl⟩ := hq
  refine wpAny_bind (wpAny_holding (wpAny_pure ?_))
  refine wpAny_bind (wpAny_letGo ?_)
  show wpAny _ _ (if (cs'.length : Int) < 0 then _ else _) _ _ _
  rw [if_neg (by omega)]
  show wpAny _ _ (if (cs'.length : Int) ≥ 2 ^ 63 then _ else _) _ _ _
  rw [if_neg (by omega)]
  exact wpAny_bind (wpAny_mkInt (wpAny_pure ⟨_, rfl, k _ { s' with toks := s'.toks + 1 } C' kp⟩))
/-- len(acc), the built-in's call -/
theorem Cf.lenCall (H : HereP c) {Q : Value → Shared → Prop} (C : Cf c f o m ls cs s₀ s.heap s.gens s.os) (hd : 2 ≤ f.d) (hl : cs.length ≤ 1000)
    (k : ∀ t s', Cf c f o m ls cs s₀ s'.heap s'.gens s'.os → (∀ b ob, b ∉ o.mut → s.heap.get? b = some ob → s'.heap.get? b = some ob) → Q (.int cs.length t) s') : wpAny c.M f.A (PySem.call (.builtin "len") [.ref o.AC]) Q E s :=
  PySem.Calls.call_function_entry PySem.kind_len PySem.plain_len PySem.entry_len (args_len1 _) (C.lenBody H (C.room.in1 (by omega)) hl k)
theorem len_find (P : Params) : findIn (kk P) (.ref 185) "__len__" = some (some (.ref 152)) := (m_len P).1
/-- the accumulator's truth -/
theorem Cf.truthyA (H : HereP c) {Q : Bool → Shared → Prop} (C : Cf c f o m ls cs s₀ s.heap s.gens s.os) (hd : 2 ≤ f.d) (hl : cs.length ≤ 1000)
    (k : ∀ s', Cf c f o m ls cs s₀ s'.heap s'.gens s'.os → (∀ b ob, b ∉ o.mut → s.heap.get? b = some ob → s'.heap.get? b = some ob) → Q (!cs.isEmpty) s') : wpAny c.M f.A (truthy (.ref o.AC)) Q E s := by
  obtain ⟨its, n', t, u, kx, e1, e2, e3⟩ := C.st.acc
  have X := C.KX H.H
  have I := inst_A e1 e3
  unfold truthy
  refine wpAny_bind (m := callSpecial? (.ref o.AC) (Str.ofString "__bool__")) (wpAny_bind (wpAny_bind (I.type.here ((looks_findIn X (no_bool _)).here (wpAny_pure ?_)))))
  refine wpAny_bind (wpAny_bind (I.type.here ((looks_findIn X (len_find _)).here ?_)))
  simp only [Option.isNone_some, Bool.false_eq_true, if_false]
  refine wpAny_bind (m := runValue (.builtin "len" ⟨[.ref o.AC], []⟩)) (wpAny_runValue (codeAny_builtin PySem.entry_len ?_))
  rw [Around.under_plainId PySem.plain_len]
  refine wpAny_mono (C.lenBody H (C.room.in1 (by omega)) hl (Q := fun v s' => (∃ t, v = .int cs.length t) ∧ Q (!cs.isEmpty) s') fun t s' C' kp => ⟨⟨t, rfl⟩, k s' C' kp⟩) (fun fin s' z => ?_) fun _ _ z => z
  obtain ⟨v, rfl, ⟨t, rfl⟩, q⟩ := z
  have e : ((cs.length : Int) != 0) = !cs.isEmpty := by cases cs <;> simp; omega
  exact wpAny_pure (e ▸ q)
end
end
section
open _root_.PySem _root_.PySem.W _root_.PySem.Calls _root_.PyProof.Rows _root_.PySem.Builtin _root_.PySem.Builtin.ObjectAttr _root_.PySem.Builtin.List
set_option linter.unusedVariables false
set_option linter.unusedSimpArgs false
set_option linter.deprecated false
set_option maxRecDepth 100000
section
variable {c : Cx} {f : Fm} {o : Ob} {m : Str → Option Value} {ls : List (List Nat)} {cs : List Nat} {s₀ : Shared} {s : Shared} {E : Value → Shared → Prop}
theorem plain_strnew : plainId "str.__new__" = true := by decide +kernel
theorem Room.in2 {A : Around} {n d : Nat} (r : Room A d) (h : n + 1 ≤ d) : Room A.in1.in1 n := ⟨r.handled, by have := r.depth; show A.depth + 4 * n < _; omega, by have := r.units; show A.units + 1 + 1 + 40 * n < _; omega⟩
/-- str(acc) -/
theorem Cf.strCall (H : HereP c) {Q : Value → Shared → Prop} (C : Cf c f o m ls cs s₀ s.heap s.gens s.os) (hd : 2 ≤ f.d) (hl : cs.length ≤ 1000)
    (k : ∀ t s', Cf c f o m ls cs s₀ s'.heap s'.gens s'.os → (∀ b ob, b ∉ o.mut → s.heap.get? b = some ob → s'.heap.get? b = some ob) → Q (.str ⟨cs.toArray⟩ t) s') : wpAny c.M f.A (PySem.call (.type "str") [.ref o.AC]) Q E s := by
  obtain ⟨its, n', t, u, kx, e1, e2, e3⟩ := C.st.acc
  have X := C.KX H.H
  have I := inst_A e1 e3
  refine ks_callType_codesW (Q₁ := fun obj s₁ => (∃ t, obj = .str ⟨cs.toArray⟩ t) ∧ Q obj s₁) PySem.F.called_str (fun q => wpAny_of_eq (PySem.F.typeCall_str_1 _) q) PySem.F.entry_object_init ?_ fun obj s₁ h₁ => ?_
  · refine codeAny_of_tree ?_
    show wpAny _ f.A.in1.in1 (do checkBuiltinCall "str.__new__" ⟨[.type "str", .ref o.AC], []⟩; again (.builtin "str.__new__" ⟨[.type "str", .ref o.AC], []⟩)) _ _ s
    refine wpAny_bind (wpAny_of_eq (PySem.F.newCall_str_1 _) (wpAny_pure ⟨plainId_quiet plain_strnew _, codeAny_builtin PySem.F.entry_str_new ?_⟩))
    rw [Around.under_plainId plain_strnew, str_new_tree]
    refine wpAny_bind (wpAny_pure ?_)
    refine wpAny_bind (wpAny_of_eq isSubtype_str_str ?_)
    refine wpAny_bind ?_
    unfold Builtin.Str.strOf
    rw [show Builtin.Str.isExactStr (.ref o.AC) = false from rfl, if_neg Bool.false_ne_true]
    have hu := C.room.units
    refine wpAny_bind (wpAny_cRoomFor (show f.A.units + 1 + 1 < cLine by omega) ?_)
    refine wpAny_bind (m := callSpecial? (.ref o.AC) (Str.ofString "__str__")) (special_fn X I (m_str _).1 (m_str _).2.1 ?_)
    refine C.callAt (strA_spec H 0 hl) (C.room.in2 (by omega)) trivial fun v s' ls' cs' hq C' kp => ?_
    obtain ⟨⟨t, rfl⟩, rfl, rfl⟩ := hq
    refine wpAny_bind (wpAny_pure ?_)
    refine wpAny_pure (wpAny_pure ⟨⟨t, rfl⟩, k t s' C' kp⟩)
  · obtain ⟨⟨t, rfl⟩, q⟩ := h₁
    refine ⟨typeIs_str _ _ _, PySem.F.args_object_init_2 _ _, ?_⟩
    exact object_init_meets PySem.F.called_str.init.lookup PySem.F.called_str.made (by decide) c.prog c.w f.A.in1 _ s₁ ⟨typeIs_str _ _ _, rfl, q⟩
end
end
section
open _root_.PySem _root_.PySem.W _root_.PySem.Calls _root_.PyProof.Rows _root_.PySem.Builtin _root_.PySem.Builtin.ObjectAttr _root_.PySem.Builtin.List
set_option linter.unusedVariables false
set_option linter.unusedSimpArgs false
set_option linter.deprecated false
set_option maxRecDepth 100000
section
variable {c : Cx} {f : Fm} {o : Ob} {m : Str → Option Value} {ls : List (List Nat)} {cs : List Nat} {s₀ : Shared} {s : Shared} {E : Value → Shared → Prop}
/-- self._initial_size == 0 and (not self or str(self).isspace()) -/
theorem only_spec (H : HereP c) (n : Nat) (ch : Nat) (r : List Nat) (hcs : cs = ch :: r) (hsp : Unicode.isSpace ch = false) (hl : cs.length ≤ 1000) : MS c (n + 3) 174 o [.ref o.AC] ls cs (fun _ => True) fun v _ ls' cs' => v = .bool false ∧ ls' = ls ∧ cs' = cs := by
  refine' MS.intro H.H.ok (xs := ["self"]) (vs := [.ref o.AC]) ?ho ?hcd ?hbind ?hl ?hcell ?hpre ?h ?hco ?hgen ?hk
  case ho => rw [H.H.K]; with_unfolding_all rfl
  case hcd => rw [H.H.K]; kernel_rfl
  case hbind => intro s W; exact BindsTo.of_eq (by with_unfolding_all rfl)
  case hl => decide
  case hcell => decide
  case hpre => intros; trivial
  case hco => rfl
  case hgen => rfl
  case hk => rfl
  case h =>
    intro f
    rintro s₀ s E Q C - k
    have ok := H.H.ok
    have bs := bi_str H.H
    refine wpAny_execs_cons (wpAny_Return_some (BoolOp_and ?_))
    refine wpAny_Compare1 (Attribute_any_ (C.name rfl rfl ?_)) (by with_unfolding_all rfl)
    refine C.getSize H.H fun u => wpAny_Constant_int (PyProof.Rows.eq_int (wpAny_truthy_bool ?_))
    rw [if_pos (by rfl)]
    refine BoolOp_one (BoolOp_or ?_)
    refine wpAny_UnaryOp ?_
    refine Cf.name (s := { s with toks := _ }) C rfl rfl ?_
    unfold unaryOp
    refine wpAny_holding ?_
    show wpAny _ _ (truthy (.ref o.AC) >>= fun b => pure (Value.bool (!b))) _ _ _
    refine wpAny_bind (Cf.truthyA (s := { s with toks := _ }) H C (by show 2 ≤ n + 2; omega) hl fun s' C' _ => ?_)
    refine wpAny_pure (wpAny_truthy_bool ?_)
    have e1 : (!(!cs.isEmpty)) = false := by rw [hcs]; rfl
    rw [e1, if_neg Bool.false_ne_true]
    refine BoolOp_one ?_
    refine MethodCall_ (Call_ (Name_function_global rfl (by kernel_rfl) (loadGlobal_builtin (ok.g.keeps C'.w.base) (ns_none_of ok.k ok.g bs.1) (ok.b.keeps C'.w.base) ((ok.builtins _ bs.2.2.2.2).trans bs.2.1) ?_) bs.2.2.2.1))
    refine PySem.callWith_type (first := []) rfl (evalArgs_plain (wpAny_items_cons (C'.name rfl rfl (wpAny_items_nil ?_)) rfl))
    refine C'.strCall H (by show 2 ≤ n + 2; omega) hl fun t s'' C'' _ => ?_
    refine GM.isspace (callWith_method0 (SC.isspace ?_))
    have e2 : Txt.isspace ⟨cs.toArray⟩ = false := by
      rw [hcs]
      show (_ && _) = false
      simp [hsp]
    rw [e2]
    exact k (.ret _) s'' _ ls cs ⟨rfl, rfl, rfl⟩ C''
end
end
section
open _root_.PySem _root_.PySem.W _root_.PySem.Calls _root_.PyProof.Rows _root_.PySem.Builtin _root_.PySem.Builtin.ObjectAttr _root_.PySem.Builtin.List
set_option linter.unusedVariables false
set_option linter.unusedSimpArgs false
set_option linter.deprecated false
set_option maxRecDepth 100000
section
variable {c : Cx} {f : Fm} {o : Ob} {m : Str → Option Value} {ls : List (List Nat)} {cs : List Nat} {s₀ : Shared} {s : Shared} {E : Value → Shared → Prop}
theorem fF_line (P : Params) (k v : Nat → Tok) (LI AC : Addr) (n : Nat) : findObj (kk P) 101 (some (dictOf (fdList P k v LI AC) n)) "_current_line" = some (.value (.ref AC)) := by kernel_rfl
theorem fF_lines (P : Params) (k v : Nat → Tok) (LI AC : Addr) (n : Nat) : findObj (kk P) 101 (some (dictOf (fdList P k v LI AC) n)) "_lines" = some (.value (.ref LI)) := by kernel_rfl
theorem fF_max (P : Params) (k v : Nat → Tok) (LI AC : Addr) (n : Nat) : findObj (kk P) 101 (some (dictOf (fdList P k v LI AC) n)) "_maxlen" = some (.value (.int 1 (v 0))) := by kernel_rfl
theorem fF_split (P : Params) (k v : Nat → Tok) (LI AC : Addr) (n : Nat) : findObj (kk P) 101 (some (dictOf (fdList P k v LI AC) n)) "_splitchars" = some (.value (.str "^|" (v 3))) := by kernel_rfl
theorem ga_F (P : Params) : findIn (kk P) (.ref 101) "__getattribute__" = some (some (.builtin "object.__getattribute__")) := by kernel_rfl
theorem gt_F (P : Params) : findIn (kk P) (.ref 101) "__getattr__" = some none := by kernel_rfl
theorem Cf.getLine {expr : Bool} {Q : Value → Shared → Prop} (H : Here c) (C : Cf c f o m ls cs s₀ s.heap s.gens s.os) (h : Q (.ref o.AC) { s with toks := s.toks + 1 }) : wpAny c.M f.A (getAttr (.ref o.F) "_current_line" expr) Q E s := by
  obtain ⟨k, v, n, fd⟩ := C.st.fd
  exact get_value (C.KX H) (inst_F C.st.f fd) (ga_F _) (fF_line _ _ _ _ _ _) rfl h
theorem Cf.getLines {expr : Bool} {Q : Value → Shared → Prop} (H : Here c) (C : Cf c f o m ls cs s₀ s.heap s.gens s.os) (h : Q (.ref o.LI) { s with toks := s.toks + 1 }) : wpAny c.M f.A (getAttr (.ref o.F) "_lines" expr) Q E s := by
  obtain ⟨k, v, n, fd⟩ := C.st.fd
  exact get_value (C.KX H) (inst_F C.st.f fd) (ga_F _) (fF_lines _ _ _ _ _ _) rfl h
theorem Cf.getMax {expr : Bool} {Q : Value → Shared → Prop} (H : Here c) (C : Cf c f o m ls cs s₀ s.heap s.gens s.os) (h : ∀ t, Q (.int 1 t) { s with toks := s.toks + 1 }) : wpAny c.M f.A (getAttr (.ref o.F) "_maxlen" expr) Q E s := by
  obtain ⟨k, v, n, fd⟩ := C.st.fd
  exact get_value (C.KX H) (inst_F C.st.f fd) (ga_F _) (fF_max _ _ _ _ _ _) rfl (h _)
theorem Cf.getSplit {expr : Bool} {Q : Value → Shared → Prop} (H : Here c) (C : Cf c f o m ls cs s₀ s.heap s.gens s.os) (h : ∀ t, Q (.str "^|" t) { s with toks := s.toks + 1 }) : wpAny c.M f.A (getAttr (.ref o.F) "_splitchars" expr) Q E s := by
  obtain ⟨k, v, n, fd⟩ := C.st.fd
  exact get_value (C.KX H) (inst_F C.st.f fd) (ga_F _) (fF_split _ _ _ _ _ _) rfl (h _)
end
end
section
open _root_.PySem _root_.PySem.W _root_.PySem.Calls _root_.PyProof.Rows _root_.PySem.Builtin _root_.PySem.Builtin.ObjectAttr _root_.PySem.Builtin.List
set_option linter.unusedVariables false
set_option linter.unusedSimpArgs false
set_option linter.deprecated false
set_option maxRecDepth 100000
section
variable {c : Cx} {f : Fm} {o : Ob} {m : Str → Option Value} {ls : List (List Nat)} {cs : List Nat} {s₀ : Shared} {s : Shared} {E : Value → Shared → Prop} {h h' : Heap} {g : Array GenState} {os : OsState}
/-- a ghost of the state: what stands now, but for the frame's own names -/
theorem Cf.rebase (C : Cf c f o m ls cs s₀ h g os) : Cf c f o m ls cs { s₀ with heap := hideAll h [f.L] } h g os :=
  ⟨C.kind, C.room, C.ns, C.st, C.w, fun b ob _ e => of_hideAll _ e, C.osE, hideAll_none _ (List.mem_singleton.mpr rfl), fun b ob e => hideAll_get _ (C.w.base _ _ e) fun hm => (by
    have := C.b0 _ _ e
    rw [List.mem_singleton.mp hm, C.fresh] at this; cases this), C.nd⟩
theorem Cf.unbase {ls' : List (List Nat)} {cs' : List Nat} {m' : Str → Option Value} {g' : Array GenState} {os' : OsState} (C₀ : Cf c f o m ls cs s₀ h g os) (C : Cf c f o m' ls' cs' { s₀ with heap := hideAll h [f.L] } h' g' os') : Cf c f o m' ls' cs' s₀ h' g' os' :=
  ⟨C.kind, C.room, C.ns, C.st, C.w, fun b ob hb e => C.pv b ob hb (hideAll_get _ (C₀.pv b ob hb e) fun hm => (by
    rw [List.mem_singleton.mp hm, C₀.fresh] at e; cases e)), C.osE, C₀.fresh, C₀.b0, C.nd⟩
theorem fields_ne {h : Heap} {I b : Addr} {ob : Obj} (x : Fields h I) (e : h.get? b = some ob) (hd : ∀ n, ob.cls = .type n → ∀ vs, ob.data ≠ .fields vs) : b ≠ I := by
  rintro rfl
  obtain ⟨o', n, xs, ho, hdd, hc, _⟩ := x
  rw [e] at ho; cases ho; exact hd _ hc _ hdd
/-- an iterator turns -/
theorem Cf.turn {I : Addr} (C : Cf c f o m ls cs s₀ h g os) (x : Heap.ExtBut I h h') (hI : Fields h I) (hf : s₀.heap.get? I = none) : Cf c f o m ls cs s₀ h' g os := by
  obtain ⟨Sf, ⟨k', v, n, fd⟩, acc, li⟩ := id C.st
  obtain ⟨its, n0, t', u', k0, e1, e2, e3⟩ := id acc
  obtain ⟨its2, ⟨n2, e4⟩, _⟩ := id li
  obtain ⟨ps1, p1, q1⟩ := C.w.t1
  obtain ⟨ps2, p2, q2⟩ := C.w.t2
  have hb : c.h₀.get? I = none := by
    cases q : c.h₀.get? I with
    | none => rfl
    | some ob => have := C.b0 _ _ q; rw [hf] at this; cases this
  have ht : ∀ a items, IsTup h a items → a ≠ I := fun a items t => hI.tup t
  have a1 : o.AC ≠ I := fields_ne hI e1 (by simp)
  have a2 : o.Ad ≠ I := fields_ne hI e3 (by simp)
  have a3 : o.LI ≠ I := fields_ne hI e4 (by simp)
  have a4 : o.F ≠ I := fields_ne hI Sf (by simp)
  have a5 : o.Fd ≠ I := fields_ne hI fd (by simp)
  have b1 : 147 ≠ I := fields_ne hI p1 (by simp)
  have b2 : 154 ≠ I := fields_ne hI p2 (by simp)
  exact ⟨C.kind, C.room, C.ns.at' fun ob e => x _ _ (hI.ns C.ns) e, ⟨x _ _ a4 Sf, ⟨k', v, n, x _ _ a5 fd⟩, acc.but x a1 a2 ht, li.but x a3⟩, C.w.but x hb b1 b2, fun b ob hm e => x _ _ (fun q => by rw [show b = I from q, hf] at e; cases e) (C.pv b ob hm e), C.osE, C.fresh, C.b0, C.nd⟩
/-- a loop that leaves the objects alone -/
theorem Cf.for_ {x : String} {px : Pos} {body orelse : List Stmt} {I : Addr} {items : List V} {P : Nat → Value → Prop} {St' : Nat → Heap → Prop} {Qs : Flow → Shared → Prop} (Inv : Nat → (Str → Option Value) → Prop) (B : (Str → Option Value) → Prop)
    (C : Cf c f o m ls cs s₀ s.heap s.gens s.os) (W : It c I none items s.heap P St') (hI : s₀.heap.get? I = none) (hIL : I ≠ f.L) (hl : f.sc.names.lookup (Str.ofString x) = some .local) (h0 : Inv 0 m)
    (turn : ∀ i v w m₁ s₀' s₁ E', items[i]? = some v → ER s.heap v w → Inv i m₁ → Cf c f o (fun y => if y = Str.ofString x then some w else m₁ y) ls cs s₀' s₁.heap s₁.gens s₁.os →
      ∀ Q' : Flow → Shared → Prop, (∀ fl s₂ m₂, Cf c f o m₂ ls cs s₀' s₂.heap s₂.gens s₂.os → (match fl with | .next | .cont => Inv (i + 1) m₂ | .brk => B m₂ | .ret _ => False) → Q' fl s₂) → wpAny c.M f.A (execs body f.env) Q' E' s₁)
    (last : ∀ m₁ s₁ E', Inv items.length m₁ → Cf c f o m₁ ls cs s₀ s₁.heap s₁.gens s₁.os → wpAny c.M f.A (execs orelse f.env) Qs E' s₁)
    (brk : ∀ m₁ s₁, B m₁ → Cf c f o m₁ ls cs s₀ s₁.heap s₁.gens s₁.os → Qs .next s₁) :
    codeAny c.M f.A (.forLoop (.Name (Str.ofString x) px) (.ref I) body orelse f.env) (fun r s' => match r with | .ok g => Qs g s' | .error e => cameBackBy c.M f.A f.env E e s') s := by
  have WW := W.walks f.A C.room.handled
  have hFI := W.field _ _ W.start
  have hIm : I ∉ o.mut := by
    obtain ⟨Sf, ⟨k', v, n, fd⟩, acc, li⟩ := id C.st
    obtain ⟨its, n0, t', u', k0, e1, e2, e3⟩ := id acc
    obtain ⟨its2, ⟨n2, e4⟩, _⟩ := id li
    obtain ⟨ps1, p1, q1⟩ := C.w.t1
    obtain ⟨ps2, p2, q2⟩ := C.w.t2
    simp only [Ob.mut, List.mem_cons, List.not_mem_nil, or_false, not_or]
    exact ⟨Ne.symm (fields_ne hFI e4 (by simp)), Ne.symm (fields_ne hFI e1 (by simp)), Ne.symm (fields_ne hFI e3 (by simp)), Ne.symm (fields_ne hFI p1 (by simp)), Ne.symm (fields_ne hFI p2 (by simp))⟩
  refine codeAny_forLoop_any (fun n s' => ∃ i m₁, n = items.length - i ∧ i ≤ items.length ∧ Inv i m₁ ∧ Cf c f o m₁ ls cs s₀ s'.heap s'.gens s'.os ∧ St' i s'.heap) ?_ items.length ⟨0, m, rfl, Nat.zero_le _, h0, C, W.start⟩
  rintro n s₁ ⟨i, m₁, rfl, hi, hinv, C₁, st⟩
  have hI1 := W.field _ _ st
  by_cases hlt : i < items.length
  · refine WW.item i s₁ _ _ hlt st fun v h' tk hp st' hk => ?_
    have hs : Heap.ExtBut I s₁.heap h' := fun b o hb e => hk b o (by simpa using hb) e
    have C₂ := C₁.turn hs hI1 hI
    have hI' := W.field _ _ st'
    obtain ⟨vv, hvi, hev⟩ := W.item i v hlt hp
    obtain ⟨oI, hoI⟩ : ∃ o, h'.get? I = some o := by obtain ⟨o, _, _, ho, _⟩ := hI'; exact ⟨o, ho⟩
    refine letGo_ok hI' ?_
    refine wpAny_assign_Name (Cf.store (s := { s₁ with heap := h', toks := tk }) C₂.rebase hl fun h₃ C₃ hs₃ => ?_)
    refine turn i vv v m₁ _ { s₁ with heap := h₃, toks := tk + 1 } _ hvi hev hinv C₃ _ fun fl s₄ m₂ C₄ hfl => ?_
    have C₅ := C₂.unbase C₄
    have kI : s₄.heap.get? I = some oI := C₄.pv I oI hIm (hideAll_get _ hoI fun hm => hIL (List.mem_singleton.mp hm))
    have st'' : St' (i + 1) s₄.heap := WW.frame _ _ _ st' fun b hb ob e => by
      have hb : b = I := by simpa using hb
      subst hb
      rw [hoI] at e; cases e; exact kI
    cases fl with
    | next => exact ⟨items.length - (i + 1), by omega, i + 1, m₂, rfl, hlt, hfl, C₅, st''⟩
    | cont => exact ⟨items.length - (i + 1), by omega, i + 1, m₂, rfl, hlt, hfl, C₅, st''⟩
    | brk => exact brk m₂ s₄ hfl C₅
    | ret v => exact hfl.elim
  · have hi' : i = items.length := by omega
    subst hi'
    refine WW.done s₁ _ _ st fun h' tk hk => ?_
    have hs : Heap.ExtBut I s₁.heap h' := fun b o hb e => hk b o (by simpa using hb) e
    exact last m₁ { s₁ with heap := h', toks := tk } _ hinv (C₁.turn hs hI1 hI)
end
end
section
open _root_.PySem _root_.PySem.W _root_.PySem.Calls _root_.PyProof.Rows _root_.PySem.Builtin _root_.PySem.Builtin.ObjectAttr _root_.PySem.Builtin.List
set_option linter.unusedVariables false
set_option linter.unusedSimpArgs false
set_option linter.deprecated false
set_option maxRecDepth 100000
section
variable {c : Cx} {f : Fm} {o : Ob} {m : Str → Option Value} {ls : List (List Nat)} {cs : List Nat} {s₀ : Shared} {E : Value → Shared → Prop} {h : Heap} {g : Array GenState} {os : OsState} {tk : Nat}
theorem Cf.nm {x : String} {p : Pos} {v : Value} {dr} {Q : Value → Shared → Prop} (C : Cf c f o m ls cs s₀ h g os) (hl : f.sc.names.lookup (Str.ofString x) = some .local) (hx : m (Str.ofString x) = some v) (q : Q v ⟨h, g, dr, tk, os⟩)
    (hd : (Str.ofString x == ("__debug__" : Str)) = false := by decide +kernel) : wpAny c.M f.A (eval (.Name (Str.ofString x) p) f.env) Q E ⟨h, g, dr, tk, os⟩ := Cf.name (s := ⟨h, g, dr, tk, os⟩) C hl hx q hd
/-- self._current_line -/
theorem Cf.line {p1 p2 : Pos} {dr} {Q : Value → Shared → Prop} (H : Here c) (C : Cf c f o m ls cs s₀ h g os) (hl : f.sc.names.lookup (Str.ofString "self") = some .local) (hx : m (Str.ofString "self") = some (.ref o.F)) (q : ∀ tk, Q (.ref o.AC) ⟨h, g, dr, tk, os⟩) :
    wpAny c.M f.A (eval (.Attribute (.Name (Str.ofString "self") p1) "_current_line" p2) f.env) Q E ⟨h, g, dr, tk, os⟩ :=
  Attribute_any_ (Cf.name (s := ⟨h, g, dr, tk, os⟩) C hl hx (Cf.getLine (s := ⟨h, g, dr, tk, os⟩) H C (q _)))
theorem Cf.linesN {p1 p2 : Pos} {dr} {Q : Value → Shared → Prop} (H : Here c) (C : Cf c f o m ls cs s₀ h g os) (hl : f.sc.names.lookup (Str.ofString "self") = some .local) (hx : m (Str.ofString "self") = some (.ref o.F)) (q : ∀ tk, Q (.ref o.LI) ⟨h, g, dr, tk, os⟩) :
    wpAny c.M f.A (eval (.Attribute (.Name (Str.ofString "self") p1) "_lines" p2) f.env) Q E ⟨h, g, dr, tk, os⟩ :=
  Attribute_any_ (Cf.name (s := ⟨h, g, dr, tk, os⟩) C hl hx (Cf.getLines (s := ⟨h, g, dr, tk, os⟩) H C (q _)))
theorem Cf.mA {name : Str} {fa : Addr} {pl : Sem Bool} {dr} {Q : Value × List Value → Shared → Prop} (H : Here c) (C : Cf c f o m ls cs s₀ h g os) (hm : MethOf c.w.params 185 name fa) (q : Q (.ref fa, [.ref o.AC]) ⟨h, g, dr, tk, os⟩) (hs : (name == ("_initial_size" : Str)) = false := by decide +kernel) :
    wpAny c.M f.A (getMethod (.ref o.AC) name pl) Q E ⟨h, g, dr, tk, os⟩ := Cf.methA (s := ⟨h, g, dr, tk, os⟩) H C hm hs q
theorem Cf.cl {n : Nat} {fa : Addr} {ws : List Value} {pre : Heap → Prop} {post : Value → Heap → List (List Nat) → List Nat → Prop} {dr} {Q : Value → Shared → Prop} (M : MS c n fa o ws ls cs pre post) (hn : n ≤ f.d)
    (C : Cf c f o m ls cs s₀ h g os) (hp : pre h) (k : ∀ w s' ls' cs', post w s'.heap ls' cs' → Cf c f o m ls' cs' s₀ s'.heap s'.gens s'.os → (∀ b ob, b ∉ o.mut → h.get? b = some ob → s'.heap.get? b = some ob) → Q w s') :
    wpAny c.M f.A (PySem.call (.ref fa) ws) Q E ⟨h, g, dr, tk, os⟩ := Cf.call (s := ⟨h, g, dr, tk, os⟩) M hn C hp k
theorem Cf.st' {x : String} {v : Value} {dr} {Q : Unit → Shared → Prop} (C : Cf c f o m ls cs s₀ h g os) (hl : f.sc.names.lookup (Str.ofString x) = some .local)
    (k : ∀ h' tk, Cf c f o (fun y => if y = Str.ofString x then some v else m y) ls cs s₀ h' g os → Heap.SameBut f.L h h' → Q () ⟨h', g, dr, tk, os⟩) : wpAny c.M f.A (storeName f.env (Str.ofString x) v) Q E ⟨h, g, dr, tk, os⟩ :=
  Cf.store (s := ⟨h, g, dr, tk, os⟩) C hl fun h' C' hs => k h' _ C' hs
theorem Cf.kx (H : Here c) (C : Cf c f o m ls cs s₀ h g os) : (kk c.w.params).In h := by
  have := C.X H.ok
  rwa [H.K] at this
/-- a name of a built-in, called -/
theorem Cf.bi {x : String} {fv : Value} {p1 : Pos} {dr} {Q : Value → Shared → Prop} (H : Here c) (b : BI c x fv) (C : Cf c f o m ls cs s₀ h g os) (hn : f.sc.names.lookup (Str.ofString x) = some .globalImplicit) (q : Q fv ⟨h, g, dr, tk, os⟩) :
    wpAny c.M f.A (eval (.Name (Str.ofString x) p1) f.env) Q E ⟨h, g, dr, tk, os⟩ :=
  Name_function_global (env := f.env) C.kind hn (loadGlobal_builtin (env := f.env) (H.ok.g.keeps C.w.base) (ns_none_of H.ok.k H.ok.g b.1) (H.ok.b.keeps C.w.base) ((H.ok.builtins _ b.2.2.2.2).trans b.2.1) q) b.2.2.2.1
/-- len(self._current_line) -/
theorem Cf.lenLine {p1 p2 p3 p4 : Pos} {dr} {Q : Value → Shared → Prop} (H : HereP c) (C : Cf c f o m ls cs s₀ h g os) (hl : f.sc.names.lookup (Str.ofString "self") = some .local) (hx : m (Str.ofString "self") = some (.ref o.F)) (hn : f.sc.names.lookup (Str.ofString "len") = some .globalImplicit) (hd : 2 ≤ f.d) (hc : cs.length ≤ 1000)
    (k : ∀ t s', Cf c f o m ls cs s₀ s'.heap s'.gens s'.os → Q (.int cs.length t) s') :
    wpAny c.M f.A (eval (.Call (.Name (Str.ofString "len") p1) [.Attribute (.Name (Str.ofString "self") p2) "_current_line" p3] [] p4) f.env) Q E ⟨h, g, dr, tk, os⟩ := by
  refine Call_ (C.bi H.H (bi_len H.H) hn ?_)
  refine callWith_method1 (first := []) ?_
  refine wpAny_items_cons (C.line H.H hl hx fun tk' => wpAny_items_nil ?_) rfl
  exact Cf.lenCall (s := ⟨h, g, dr, tk', os⟩) H C hd hc fun t s' C' _ => k t s' C'
/-- str(self._current_line) -/
theorem Cf.strLine {p1 p2 p3 p4 : Pos} {dr} {Q : Value → Shared → Prop} (H : HereP c) (C : Cf c f o m ls cs s₀ h g os) (hl : f.sc.names.lookup (Str.ofString "self") = some .local) (hx : m (Str.ofString "self") = some (.ref o.F)) (hn : f.sc.names.lookup (Str.ofString "str") = some .globalImplicit) (hd : 2 ≤ f.d) (hc : cs.length ≤ 1000)
    (k : ∀ t s', Cf c f o m ls cs s₀ s'.heap s'.gens s'.os → (∀ b ob, b ∉ o.mut → h.get? b = some ob → s'.heap.get? b = some ob) → Q (.str ⟨cs.toArray⟩ t) s') :
    wpAny c.M f.A (eval (.Call (.Name (Str.ofString "str") p1) [.Attribute (.Name (Str.ofString "self") p2) "_current_line" p3] [] p4) f.env) Q E ⟨h, g, dr, tk, os⟩ := by
  refine Call_ (C.bi H.H (bi_str H.H) hn ?_)
  refine PySem.callWith_type (first := []) rfl (evalArgs_plain (wpAny_items_cons (C.line H.H hl hx fun tk' => wpAny_items_nil ?_) rfl))
  exact Cf.strCall (s := ⟨h, g, dr, tk', os⟩) H C hd hc fun t s' C' kp => k t s' C' kp
/-- self._lines.append(str(self._current_line)) -/
theorem Cf.putLine {p1 p2 p3 p4 p5 p6 p7 p8 p9 : Pos} {dr} {Q : Flow → Shared → Prop} (H : HereP c) (C : Cf c f o m ls cs s₀ h g os) (hl : f.sc.names.lookup (Str.ofString "self") = some .local) (hx : m (Str.ofString "self") = some (.ref o.F)) (hn : f.sc.names.lookup (Str.ofString "str") = some .globalImplicit) (hd : 2 ≤ f.d) (hc : cs.length ≤ 1000) (hls : ls.length ≤ 1000)
    (k : ∀ s', Cf c f o m (ls ++ [cs]) cs s₀ s'.heap s'.gens s'.os → (∀ b ob, b ∉ o.mut → h.get? b = some ob → s'.heap.get? b = some ob) → Q .next s')
    (hline : (p9.endLine == p7.line) = true) (hline2 : (p9.endLine == p8.line) = true := by rfl)
    (hsw : swapsWith (.Call (.Attribute (.Attribute (.Name (Str.ofString "self") p1) "_lines" p2) "append" p9) [.Call (.Name (Str.ofString "str") p3) [.Attribute (.Name (Str.ofString "self") p4) "_current_line" p5] [] p6] [] p7) none p8.line f.env = pure false := by rfl) (hi : interactive f.env = false := by rfl)
    (hbase : attributeBase (.Attribute (.Name (Str.ofString "self") p1) "_lines" p2) "append" f.env (eval (.Attribute (.Name (Str.ofString "self") p1) "_lines" p2) f.env) = eval (.Attribute (.Name (Str.ofString "self") p1) "_lines" p2) f.env := by rfl) :
    wpAny c.M f.A (exec (.Expr (.Call (.Attribute (.Attribute (.Name (Str.ofString "self") p1) "_lines" p2) "append" p9) [.Call (.Name (Str.ofString "str") p3) [.Attribute (.Name (Str.ofString "self") p4) "_current_line" p5] [] p6] [] p7) p8) f.env) Q E ⟨h, g, dr, tk, os⟩ := by
  refine wpAny_Expr_any (wpAny_Call_append hbase (by rfl) hline (by rfl) (C.linesN H.H hl hx fun tk' => ?_)) hi hsw
  obtain ⟨its, ⟨n, e4⟩, q4⟩ := id C.st.li
  refine ⟨_, its, rfl, ⟨_, n, e4, rfl, rfl, rfl⟩, ?_⟩
  refine C.strLine H hl hx hn hd hc fun t s' C' kp => ?_
  obtain ⟨its', ⟨n', e5⟩, q5⟩ := id C'.st.li
  have hsz : its'.size = ls.length := by have := q5.length; simpa using this.symm
  refine wpAny_list_append_plain ⟨n', e5⟩ (fun h' hp' hs' => ?_) (by rw [sizeLine_eq]; omega)
  refine k { s' with heap := h' } (C'.li hs' ⟨_, hp', ?_⟩) fun b ob hb e => (Heap.SameBut.extBut hs') _ _ (fun q => hb (by rw [show b = o.LI from q]; simp [Ob.mut])) (kp b ob hb e)
  rw [Array.toList_push, List.map_append]
  exact q5.append ⟨⟨t, rfl⟩, trivial⟩
end
end
section
open _root_.PySem _root_.PySem.W _root_.PySem.Calls _root_.PyProof.Rows _root_.PySem.Builtin _root_.PySem.Builtin.ObjectAttr _root_.PySem.Builtin.List
set_option linter.unusedVariables false
set_option linter.unusedSimpArgs false
set_option linter.deprecated false
set_option maxRecDepth 100000
section
variable {c : Cx} {f : Fm} {o : Ob} {m : Str → Option Value} {ls : List (List Nat)} {cs : List Nat} {s₀ : Shared} {E : Value → Shared → Prop} {h : Heap} {g : Array GenState} {os : OsState} {tk : Nat}
theorem partsAt {h : Heap} {cs : List Nat} {its : Array Value} {j : Nat} {q : Nat} (a : All2 (ER h) (cs.map partV) its.toList) (hj : cs[j]? = some q) : ∃ T t t', its[j]? = some (.ref T) ∧ IsTup h T #[.str ⟨#[]⟩ t, .str ⟨#[q]⟩ t'] := by
  obtain ⟨v, hv, r⟩ := a.get (i := j) (a := partV q) (by simp [hj])
  obtain ⟨T, t, t', rfl, hT⟩ := part_tup r
  exact ⟨T, t, t', by simpa using hv, hT⟩
/-- self._current_line[i - 1][1] -/
theorem Cf.prev {p1 p2 p3 p4 p5 p6 p7 p8 : Pos} {k1 k2 : Nat} {dr} {i q : Nat} {ti : Tok} {Q : Value → Shared → Prop} (H : HereP c) (C : Cf c f o m ls cs s₀ h g os) (hl : f.sc.names.lookup (Str.ofString "self") = some .local) (hx : m (Str.ofString "self") = some (.ref o.F))
    (hli : f.sc.names.lookup (Str.ofString "i") = some .local) (hxi : m (Str.ofString "i") = some (.int i ti)) (h1 : 1 ≤ i) (hj : cs[i - 1]? = some q) (hc : cs.length ≤ 1000)
    (k : ∀ t tk, Q (.str ⟨#[q]⟩ t) ⟨h, g, dr, tk, os⟩) :
    wpAny c.M f.A (eval (.Subscript (.Subscript (.Attribute (.Name (Str.ofString "self") p1) "_current_line" p2) (.BinOp (.Name (Str.ofString "i") p3) .Sub (.Constant (.int 1) k1 p4) p5) p6) (.Constant (.int 1) k2 p7) p8) f.env) Q E ⟨h, g, dr, tk, os⟩ := by
  have hi : i - 1 < cs.length := (List.getElem?_eq_some_iff.mp hj).1
  refine Subscript_ (Subscript_ (C.line H.H hl hx fun tk' => wpAny_BinOp (C.nm hli hxi (wpAny_Constant_int (PyProof.Rows.sub_int ?_)))))
  obtain ⟨its, n', t, u, kx, e1, e2, e3⟩ := C.st.acc
  have X := C.kx H.H
  obtain ⟨T, t1, t2, hT, tup⟩ := partsAt e2 hj
  refine over_tail (K := kk c.w.params) (s := ⟨h, g, dr, _, os⟩) X (inst_A e1 e3) (gi_A _) ?_ rfl
  refine over_getItem (K := kk c.w.params) (s := ⟨h, g, dr, _, os⟩) X e1 (inst_A e1 e3) (mro_A _) (seq_A _) (gi_A _) (by omega) (by omega) (v := .ref T) ?_ ?_
  · have : ((i : Int) - 1).toNat = i - 1 := by omega
    rw [this]; exact hT
  · refine wpAny_Constant_int ?_
    refine tail_any (s := ⟨h, g, dr, _, os⟩) tup.typeIs slot_tuple_getitem.lookup (getItem_tuple tup (by decide) (by decide) (j := 1) rfl rfl (k _ _)) rfl
noncomputable abbrev splits (q : Nat) : Prop := q = 94 ∨ q = 124
/-- the state behind a chunk -/
noncomputable def chunk (p : List (List Nat) × List Nat) (ch : Nat) : List (List Nat) × List Nat := if (∃ e ∈ p.2.getLast?, splits e) then (p.1 ++ [p.2], [ch]) else (p.1, p.2 ++ [ch])
theorem chunk_snoc {ls d q ch} (hq : splits q) : chunk (ls, d ++ [q]) ch = (ls ++ [d ++ [q]], [ch]) := by
  unfold chunk; rw [if_pos]; simp [hq]
theorem chunk_no {ls cs ch} (h : ∀ x ∈ cs, ¬ splits x) : chunk (ls, cs) ch = (ls, cs ++ [ch]) := by
  unfold chunk; rw [if_neg]; rintro ⟨e, he, hs⟩
  exact h e (List.mem_of_getLast? he) hs
theorem rng_down {h : Heap} {n : Int} {t u v : Tok} (hn : 0 ≤ n ∧ n ≤ 100000) : VR h (h.push { cls := .type "range", data := .fields #[.int n t, .int 0 u, .int (-1) v] }) (.rng n (-1) n.toNat) (.ref h.objs.size) :=
  ⟨_, rfl, 0, _, _, _, IsRange.new .., small_down (by omega) (by omega) (by omega) (by omega), by rw [rangeSize_downNat]; simp⟩
theorem lit_split : (Str.ofString "^|") = ⟨([94, 124] : List Nat).toArray⟩ := by decide +kernel
theorem Cf.split' {p1 p2 : Pos} {dr} {Q : Value → Shared → Prop} (H : Here c) (C : Cf c f o m ls cs s₀ h g os) (hl : f.sc.names.lookup (Str.ofString "self") = some .local) (hx : m (Str.ofString "self") = some (.ref o.F)) (q : ∀ t tk, Q (.str ⟨([94, 124] : List Nat).toArray⟩ t) ⟨h, g, dr, tk, os⟩) :
    wpAny c.M f.A (eval (.Attribute (.Name (Str.ofString "self") p1) "_splitchars" p2) f.env) Q E ⟨h, g, dr, tk, os⟩ :=
  Attribute_any_ (Cf.name (s := ⟨h, g, dr, tk, os⟩) C hl hx (Cf.getSplit (s := ⟨h, g, dr, tk, os⟩) H C fun t => by
    have := q t (tk + 1)
    rw [← lit_split] at this
    exact this))
theorem Cf.fresh_of {I : Addr} (C : Cf c f o m ls cs s₀ h g os) (hI : h.get? I = none) : s₀.heap.get? I = none ∧ I ≠ f.L := by
  refine ⟨?_, ?_⟩
  · cases e : s₀.heap.get? I with
    | none => rfl
    | some ob =>
      by_cases hm : I ∈ o.mut
      · obtain ⟨Sf, ⟨k', v, n, fd⟩, acc, li⟩ := id C.st
        obtain ⟨its, n0, t', u', k0, e1, e2, e3⟩ := id acc
        obtain ⟨its2, ⟨n2, e4⟩, _⟩ := id li
        obtain ⟨ps1, p1, q1⟩ := C.w.t1
        obtain ⟨ps2, p2, q2⟩ := C.w.t2
        simp only [Ob.mut, List.mem_cons, List.not_mem_nil, or_false] at hm
        rcases hm with rfl | rfl | rfl | rfl | rfl <;> simp_all
      · rw [C.pv _ _ hm e] at hI; cases hI
  · rintro rfl
    obtain ⟨ob, _, _, ho, _⟩ := C.ns
    rw [hI] at ho; cases ho
theorem iter_rng {A : Around} {s : Shared} {Q : Value → Shared → Prop} {h₁ : Heap} {w : Value} {x sp : Int} {n : Nat} (hv : VR h₁ s.heap (.rng x sp n) w)
    (hQ : ∀ I P St h', Ext s.heap h' → s.heap.get? I = none → It c I none ((List.range n).map fun (k : Nat) => .int (x + k * sp)) h' P St → Q (.ref I) { s with heap := h' }) : wpAny c.M A (pyIter w) Q E s := by
  obtain ⟨a, rfl, b, t, u, v, hr, hsm, hn⟩ := hv
  refine wpAny_pyIter_range hr hsm (hQ _ (fun i v => ∃ t, v = .int (x + i * sp) t) (fun i h => IsRangeIter h s.heap.objs.size (x + (i : Nat) * sp) ((n : Int) - (i : Nat)) sp) _ (Ext.push _ _) (fresh_size _) ⟨fun A hA => ?_, fun i w _ hp => ?_, fun i h st => ?_, ?_, nofun⟩)
  · have := Walks.range (prog := c.prog) (w := c.w) hA s.heap.objs.size x sp n
    simpa using this
  · rename_i hlt
    obtain ⟨t, rfl⟩ := hp
    simp only [List.length_map, List.length_range] at hlt
    exact ⟨.int (x + i * sp), by simp [List.getElem?_range hlt], t, by simp⟩
  · exact ⟨_, _, _, st, rfl, rfl, by decide⟩
  · show IsRangeIter _ _ _ _ _
    rw [hn]
    simpa using Heap.get?_push_size _ rfl
theorem ER.via {h h' : Heap} (ht : ∀ a items, IsTup h a items → ∀ ob, h.get? a = some ob → h'.get? a = some ob) {v : V} {w : Value} (e : ER h v w) : ER h' v w := by
  cases v with
  | tup l =>
    obtain ⟨a, items, e, t, q⟩ := e
    have k := ht _ _ t
    obtain ⟨o, ho, r⟩ := t
    exact ⟨a, items, e, ⟨o, k _ ho, r⟩, q⟩
  | _ => exact e
theorem str_not_part {h : Heap} {l : List Nat} {q : Nat} {w : Value} (h1 : PR (.str l) w) (h2 : ER h (partV q) w) : False := by
  obtain ⟨T, t1, t2, rfl, _⟩ := part_tup h2
  obtain ⟨t, e⟩ := h1
  cases e
theorem all_not_part {h : Heap} {q : Nat} {r : List Nat} : ∀ {ls : List (List Nat)} {ws : List Value}, All2 PR (ls.map V.str) ws → All2 (ER h) ((q :: r).map partV) ws → False
  | _ :: _, _ :: _, ⟨h1, _⟩, ⟨h2, _⟩ => str_not_part h1 h2
  | [], [], _, h2 => h2.elim
  | [], _ :: _, h1, _ => h1.elim
  | _ :: _, [], h1, _ => h1.elim
theorem rem_ne {a : Addr} {its : Array Value} {na q : Nat} {r : List Nat} (C : Cf c f o m ls cs s₀ h g os) (hp : h.get? a = some { cls := .type "list", data := .seq its na }) (hal : All2 (ER h) ((q :: r).map partV) its.toList) : a ∉ o.mut := by
  obtain ⟨Sf, ⟨k', v, n, fd⟩, ⟨its0, n0, t', u', k0, e1, e2, e3⟩, ⟨its2, ⟨n2, e4⟩, e5⟩⟩ := id C.st
  obtain ⟨ps1, p1, q1⟩ := C.w.t1
  obtain ⟨ps2, p2, q2⟩ := C.w.t2
  simp only [Ob.mut, List.mem_cons, List.not_mem_nil, or_false, not_or]
  refine ⟨?_, ne_cls hp e1 (by simp), ne_cls hp e3 (by simp), ne_cls hp p1 (by simp), ne_cls hp p2 (by simp)⟩
  rintro rfl
  rw [hp] at e4
  cases e4
  exact all_not_part e5 hal
set_option maxHeartbeats 800000 in
theorem append_spec (H : HereP c) (n : Nat) (t1 t2 : Tok) (ch : Nat) (hl : cs.length ≤ 900) (hls : ls.length ≤ 900) (hcs : ∀ x ∈ cs.dropLast, ¬ splits x) :
    MS c (n + 5) 98 o [.ref o.F, .str ⟨#[]⟩ t1, .str ⟨#[ch]⟩ t2] ls cs (fun _ => True) fun v _ ls' cs' => v = .none ∧ (ls', cs') = chunk (ls, cs) ch := by
  refine' MS.intro H.H.ok (xs := ["self", "fws", "string"]) (vs := [.ref o.F, .str ⟨#[]⟩ t1, .str ⟨#[ch]⟩ t2]) ?ho ?hcd ?hbind ?hl ?hcell ?hpre ?h ?hco ?hgen ?hk
  case ho => rw [H.H.K]; with_unfolding_all rfl
  case hcd => rw [H.H.K]; kernel_rfl
  case hbind => intro s W; exact BindsTo.of_eq (by with_unfolding_all rfl)
  case hl => decide
  case hcell => decide
  case hpre => intros; trivial
  case hco => rfl
  case hgen => rfl
  case hk => rfl
  case h =>
    intro f
    rintro s₀ ⟨h, g, dr, tk, os⟩ E Q C - k
    refine wpAny_execs_cons (wpAny_Expr_any (MethodCall_ (C.line H.H rfl rfl fun tk => C.mA H.H (m_push _) (callWith_fn (P := c.w.params) (m_push _).2.2 ?_))))
    refine wpAny_items_cons (C.nm rfl rfl (wpAny_items_cons (C.nm rfl rfl (wpAny_items_nil ⟨C.kx H.H, ?_⟩)) rfl)) rfl
    refine Cf.cl (push_spec H.H (n + 3) t1 t2 ch (by omega)) (Nat.le_refl _) C trivial ?_
    rintro _ ⟨h, g, dr, tk, os⟩ _ _ ⟨rfl, rfl, rfl⟩ C -
    refine wpAny_execs_cons (wpAny_If (wpAny_isTrue_Compare1 (C.lenLine H rfl rfl rfl (by show 2 ≤ n + 4; omega) (by simp; omega) ?_) (by with_unfolding_all rfl)))
    rintro t ⟨h, g, dr, tk, os⟩ C
    refine Attribute_any_ (C.nm rfl rfl (Cf.getMax (s := ⟨h, g, dr, tk, os⟩) H.H C fun t3 => PyProof.Rows.gt_int (wpAny_truthy_bool ?_)))
    by_cases hne : cs = []
    · subst hne
      rw [if_neg (by simp)]
      refine wpAny_execs_nil (wpAny_execs_nil ?_)
      exact k .next _ _ _ _ ⟨rfl, (chunk_no (by simp)).symm⟩ C
    have hpos : 0 < cs.length := List.length_pos_iff.mpr hne
    rw [if_pos (by simp; omega)]
    have hd : ∀ q, splits q → (∃ d, cs = d ++ [q]) ∨ ∀ x ∈ cs, x ≠ q := by
      intro q hq
      by_cases e : cs.getLast hne = q
      · exact .inl ⟨cs.dropLast, by rw [← e]; exact (List.dropLast_concat_getLast hne).symm⟩
      · refine .inr fun x hx ex => ?_
        subst ex
        rw [← List.dropLast_concat_getLast hne] at hx
        rcases List.mem_append.mp hx with hx | hx
        · exact hcs _ hx hq
        · exact e (List.mem_singleton.mp hx).symm
    refine wpAny_execs_cons ?_
    refine wpAny_For (C.split' H.H rfl rfl fun t4 tk => ?_)
    refine iter_of (h₁ := h) (v := .str [94, 124]) (items := [.str [94], .str [124]]) ⟨t4, rfl⟩ rfl fun I src P St h' x₁ hfr W hsrc => ?_
    cases src with
    | some a => cases hsrc a rfl
    | none =>
    have C' := C.ext x₁ C.w.bare rfl
    obtain ⟨hI0, hIL⟩ := C.fresh_of hfr
    refine Cf.for_ (s := ⟨h', g, dr, tk, os⟩) (fun i m₁ => m₁ (Str.ofString "self") = some (.ref o.F) ∧ (1 ≤ i → ∀ x ∈ cs, x ≠ 94) ∧ (2 ≤ i → ∀ x ∈ cs, x ≠ 124))
      (fun m₁ => m₁ (Str.ofString "self") = some (.ref o.F) ∧ (∃ t, m₁ (Str.ofString "i") = some (.int cs.length t)) ∧ ∃ d q, splits q ∧ cs = d ++ [q]) C' W hI0 hIL rfl ⟨rfl, fun e => absurd e (by decide), fun e => absurd e (by decide)⟩ ?turn ?last ?brk
    case turn =>
      rintro i v w m₁ s₀' ⟨h, g, dr, tk, os⟩ E' hi hv ⟨hs, h94, h124⟩ C Q' k'
      obtain ⟨q, hq, rfl, hqi⟩ : ∃ q, splits q ∧ v = .str [q] ∧ ((i = 0 ∧ q = 94) ∨ (i = 1 ∧ q = 124)) := by
        match i, hi with
        | 0, hi => cases hi; exact ⟨94, .inl rfl, rfl, .inl ⟨rfl, rfl⟩⟩
        | 1, hi => cases hi; exact ⟨124, .inr rfl, rfl, .inr ⟨rfl, rfl⟩⟩
        | i + 2, hi => simp at hi
      obtain ⟨t5, rfl⟩ := hv
      refine wpAny_execs_cons (wpAny_For (Call_ (C.bi H.H (bi_range H.H) rfl ?_)))
      refine PySem.callWith_type (first := []) rfl (evalArgs_plain ?_)
      refine wpAny_items_cons (wpAny_BinOp (MethodCall_ (C.line H.H rfl (by walk_at "mk") fun tk => C.mA H.H (m_count _) ?_))) rfl
      refine callWith_fn0 (C.kx H.H) (m_count _).2.2 ?_
      refine Cf.cl (part_count_spec H (n + 3)) (Nat.le_refl _) C trivial ?_
      rintro _ ⟨h, g, dr, tk, os⟩ _ _ ⟨⟨t6, rfl⟩, rfl, rfl⟩ C -
      refine wpAny_Constant_int (PyProof.Rows.sub_int ?_)
      refine wpAny_items_cons (wpAny_Constant_int ?_) rfl
      refine wpAny_items_cons (wpAny_UnaryOp (wpAny_Constant_int (PyProof.Rows.neg_int (wpAny_items_nil ?_)))) rfl
      have hn : (((cs ++ [ch]).length : Nat) : Int) - 1 = (cs.length : Int) := by simp
      rw [hn]
      refine PySem.call_range_3 (by decide) ?_
      refine iter_rng (rng_down ⟨by omega, by omega⟩) fun I P St h' x₁ hfr W => ?_
      have x₂ := (Ext.push h _).trans x₁
      have C' := C.ext x₂ C.w.bare rfl
      obtain ⟨hI0, hIL⟩ := C.fresh_of ((Ext.push h _).none hfr)
      refine Cf.for_ (s := ⟨h', g, dr, _, os⟩) (fun k m₂ => m₂ (Str.ofString "self") = some (.ref o.F) ∧ (∃ t, m₂ (Str.ofString "ch") = some (.str ⟨#[q]⟩ t)) ∧ (k = 0 ∨ ∀ x ∈ cs, x ≠ q))
        (fun m₂ => m₂ (Str.ofString "self") = some (.ref o.F) ∧ (∃ t, m₂ (Str.ofString "i") = some (.int cs.length t)) ∧ ∃ d, cs = d ++ [q]) C' W hI0 hIL rfl ⟨by walk_at "mk", ⟨t5, by walk_at "mk"⟩, .inl rfl⟩ ?turn2 ?last2 ?brk2
      case turn2 =>
        rintro j v w m₂ s₀'' ⟨h, g, dr, tk, os⟩ E'' hj hv ⟨hs2, ⟨t7, hc2⟩, hall⟩ C Q'' k''
        have hjl : j < cs.length := by have := (List.getElem?_eq_some_iff.mp hj).1; simpa using this
        obtain ⟨t8, rfl⟩ : ∃ t8, w = .int ((cs.length - j : Nat) : Int) t8 := by
          rw [List.getElem?_map, Int.toNat_natCast, List.getElem?_range hjl] at hj
          cases hj
          obtain ⟨t8, rfl⟩ := hv
          exact ⟨t8, by congr 1; omega⟩
        obtain ⟨e, he⟩ : ∃ e, cs[cs.length - j - 1]? = some e := ⟨_, List.getElem?_eq_getElem (by omega)⟩
        have he' : (cs ++ [ch])[cs.length - j - 1]? = some e := by rw [List.getElem?_append_left (by omega)]; exact he
        refine wpAny_execs_cons (wpAny_If (wpAny_isTrue_value (MethodCall_ (C.nm rfl (by walk_at "mk") (GM.isspace (callWith_method0 (SC.isspace (wpAny_truthy_bool ?_))))))))
        rw [if_neg (by rcases hq with rfl | rfl <;> decide +kernel)]
        refine wpAny_execs_nil ?_
        refine wpAny_execs_cons (wpAny_Assign_Name (C.prev H rfl (by walk_at "mk") rfl (by walk_at "mk") (by omega) he' (by simp; omega) fun t9 tk => C.st' rfl fun h tk C hsb => ?_))
        refine wpAny_execs_cons (wpAny_If (wpAny_isTrue_BoolOp (wpAny_allTrue_And_cons (wpAny_isTrue_value (C.nm rfl (by walk_at "mk") (PySem.P.truthy_str (by simp [Str.length]) ?_))))))
        rw [if_pos (by rfl)]
        refine wpAny_allTrue_And_cons (wpAny_isTrue_Compare1 (Subscript_ (C.nm rfl (by walk_at "mk") (wpAny_UnaryOp (wpAny_Constant_int (PyProof.Rows.neg_int ?_))))) (by with_unfolding_all rfl))
        refine tail_any (s := ⟨h, g, dr, _, os⟩) (typeIs_str _ _ _) slot_str_getitem.lookup (PyProof.Rows.getItem_str (c := e) rfl rfl ?_) rfl
        refine C.nm rfl (by walk_at "mk") (PyProof.Rows.eq_str (wpAny_truthy_bool ?_))
        have hb : ((⟨#[e]⟩ : Str) == ⟨#[q]⟩) = decide (e = q) := by
          rw [show ((⟨#[e]⟩ : Str) == ⟨#[q]⟩) = ([e] == [q]) from mk_beq [e] [q]]
          by_cases hh : e = q
          · subst hh; simp
          · simp [hh]
        rw [hb]
        by_cases heq : e = q
        · rw [if_pos (by simp [heq])]
          refine wpAny_allTrue_And_nil ?_
          rw [if_pos rfl]
          refine wpAny_execs_cons (wpAny_Break ?_)
          have hj0 : j = 0 := by
            rcases hall with h | h
            · exact h
            · exact absurd heq (h e (List.mem_of_getElem? he))
          subst hj0
          refine k'' .brk _ _ C ⟨by walk_at "mk", ⟨t8, by walk_at "mk"⟩, ?_⟩
          rcases hd q hq with h | h
          · exact h
          · exact absurd heq (h e (List.mem_of_getElem? he))
        · rw [if_neg (by simp [heq])]
          rw [if_neg Bool.false_ne_true]
          refine wpAny_execs_nil (wpAny_execs_nil ?_)
          refine k'' .next _ _ C ⟨by walk_at "mk", ⟨t7, by walk_at "mk"⟩, .inr ?_⟩
          rcases hall with rfl | h
          · rcases hd q hq with ⟨d, hdd⟩ | h
            · exfalso
              rw [hdd] at he
              simp at he
              exact heq he.symm
            · exact h
          · exact h
      case last2 =>
        rintro m₂ ⟨h, g, dr, tk, os⟩ E'' ⟨hs2, _, hall⟩ C
        have hall' : ∀ x ∈ cs, x ≠ q := by
          rcases hall with h | h
          · simp at h; exact absurd h hne
          · exact h
        refine wpAny_execs_cons (wpAny_Continue ?_)
        refine k' .cont _ _ C ⟨hs2, fun _ => ?_, fun h2 => ?_⟩
        · rcases hqi with ⟨rfl, rfl⟩ | ⟨rfl, rfl⟩
          · exact hall'
          · exact h94 (Nat.le_refl _)
        · rcases hqi with ⟨rfl, rfl⟩ | ⟨rfl, rfl⟩
          · omega
          · exact hall'
      case brk2 =>
        rintro m₂ ⟨h, g, dr, tk, os⟩ ⟨hs2, ⟨t7, hi2⟩, d, hdd⟩ C
        refine wpAny_execs_cons (wpAny_Break ?_)
        exact k' .brk _ _ C ⟨hs2, ⟨t7, hi2⟩, d, q, hq, hdd⟩
    case last =>
      rintro m₁ ⟨h, g, dr, tk, os⟩ E' ⟨hs, h94, h124⟩ C
      have hno : ∀ x ∈ cs, ¬ splits x := fun x hx hsx => by
        rcases hsx with rfl | rfl
        · exact h94 (by decide) _ hx rfl
        · exact h124 (by decide) _ hx rfl
      refine wpAny_execs_cons (wpAny_Assign_stores (MethodCall_ (C.line H.H rfl hs fun tk => C.mA H.H (m_pop _) (callWith_fn0 (C.kx H.H) (m_pop _).2.2 ?_))) (by rfl) (by rfl))
      refine Cf.cl (pop_spec H (n + 2) ch (by omega)) (Nat.le_refl _) C trivial ?_
      rintro v ⟨h, g, dr, tk, os⟩ _ _ ⟨hv, rfl, rfl⟩ C -
      obtain ⟨T, t1, t2, rfl, hT⟩ := part_tup hv
      show wpAny _ _ (assign _ _ _) _ _ _
      refine wpAny_assign_Tuple C.room.handled hT (by rfl) (by rfl) fun h₁ hx => ?_
      have C := C.ext (h' := h₁) (fun b ob e => hx b ob (Nat.ne_of_lt (Heap.lt_size e)) e) C.w.bare rfl
      refine wpAny_bind (wpAny_holding (wpAny_assign_Name (C.st' rfl fun h tk C hsb => ?_)))
      refine wpAny_bind (wpAny_holding (wpAny_assign_Name (C.st' rfl fun h tk C hsb => ?_)))
      refine wpAny_pure ?_
      refine wpAny_execs_cons (wpAny_If (wpAny_isTrue_Compare1 (Attribute_any_ (C.line H.H rfl (by walk_at "mk") fun tk => Cf.getSize (s := ⟨h, g, dr, tk, os⟩) H.H C fun u => wpAny_Constant_int (PyProof.Rows.gt_int (wpAny_truthy_bool ?_)))) (by with_unfolding_all rfl)))
      rw [if_neg (by decide)]
      refine wpAny_execs_nil ?_
      refine wpAny_execs_cons (wpAny_Expr_any (MethodCall_ (C.line H.H rfl (by walk_at "mk") fun tk => C.mA H.H (m_push _) (callWith_fn (P := c.w.params) (m_push _).2.2 ?_))))
      refine wpAny_items_cons (C.nm rfl (by walk_at "mk") (wpAny_items_cons (C.nm rfl (by walk_at "mk") (wpAny_items_nil ⟨C.kx H.H, ?_⟩)) rfl)) rfl
      refine Cf.cl (push_spec H.H (n + 3) t1 t2 ch (by omega)) (Nat.le_refl _) C trivial ?_
      rintro _ ⟨h, g, dr, tk, os⟩ _ _ ⟨rfl, rfl, rfl⟩ C -
      refine wpAny_execs_cons (wpAny_Return_none ?_)
      exact k (.ret .none) _ _ _ _ ⟨rfl, (chunk_no hno).symm⟩ C
    case brk =>
      rintro m₁ ⟨h, g, dr, tk, os⟩ ⟨hs, ⟨t, hi⟩, d, q, hq, rfl⟩ C
      refine wpAny_execs_cons (wpAny_Assign_Name (MethodCall_ (C.line H.H rfl hs fun tk => C.mA H.H (m_popf _) (callWith_fn (P := c.w.params) (m_popf _).2.2 ?_))))
      refine wpAny_items_cons (C.nm rfl hi (wpAny_items_nil ⟨C.kx H.H, ?_⟩)) rfl
      refine Cf.cl (popf_spec H.H (n + 3) (d ++ [q]).length t (by simp) (by simp at hl ⊢; omega)) (Nat.le_refl _) C trivial ?_
      rintro _ ⟨h, g, dr, tk, os⟩ _ _ ⟨⟨a, its, rfl, ⟨na, hp⟩, hal⟩, rfl, rfl⟩ C -
      rw [List.drop_left] at hal
      rw [List.take_left] at C
      have ham := rem_ne C hp hal
      refine C.st' rfl fun h' tk' C' hsb => ?_
      have hp' := (Heap.SameBut.extBut hsb) _ _ (ns_ne C.ns hp (by simp)) hp
      have hal' := hal.mono fun _ _ => ER.but (Heap.SameBut.extBut hsb) (fun a items t => not_tup_ns C.ns t)
      refine wpAny_execs_cons (C'.putLine H rfl (by walk_at "mk") rfl (by show 2 ≤ n + 4; omega) (by omega) (by omega) (fun s C kp => ?_) (by rfl))
      obtain ⟨h, g, dr, tk, os⟩ := s
      refine wpAny_execs_cons (wpAny_Expr_any (MethodCall_ (C.line H.H rfl (by walk_at "mk") fun tk => C.mA H.H (m_reset _) (callWith_fn (P := c.w.params) (m_reset _).2.2 ?_))))
      refine wpAny_items_cons (C.nm rfl (by walk_at "mk") (wpAny_items_nil ⟨C.kx H.H, ?_⟩)) rfl
      have hsz : its.size = 1 := by have := hal.length; simpa using this.symm
      refine Cf.cl (reset1_spec H.H (n + 3) a its [ch] (by omega) (by omega)) (Nat.le_refl _) C ⟨⟨_, kp _ _ ham hp', rfl, _, rfl⟩, ?_⟩ ?_
      · exact hal'.mono fun _ _ => ER.via fun a its t ob e => kp _ _ (tups_ne C' a its t) e
      rintro _ ⟨h, g, dr, tk, os⟩ _ _ ⟨rfl, rfl, rfl⟩ C -
      refine wpAny_execs_nil (wpAny_execs_nil ?_)
      exact k .next _ _ _ _ ⟨rfl, (chunk_snoc hq).symm⟩ C
end
end
section
open _root_.PySem _root_.PySem.W _root_.PySem.Calls _root_.PyProof.Rows _root_.PySem.Builtin _root_.PySem.Builtin.ObjectAttr _root_.PySem.Builtin.List
set_option linter.unusedVariables false
set_option linter.unusedSimpArgs false
set_option linter.deprecated false
set_option maxRecDepth 100000
section
variable {prog : Program} {w : World} {A : Around} {E : Value → Shared → Prop} {s : Shared}
theorem star_tup {T : Addr} {its : Array Value} {Q : List Value → Shared → Prop} (ht : IsTup s.heap T its) (hz : its.size ≤ sizeLine) (h : ∀ h', Ext s.heap h' → Q its.toList { s with heap := h' }) : StarOf (model prog w) A E (.ref T) Q s := by
  obtain ⟨o, D, hc, n, hd⟩ := ht
  have hT' : s.TypeIs (.ref T) "tuple" := ⟨o, D, hc⟩
  have z : wpAny (model prog w) A (collect (.ref T)) Q E s := wpAny_collect_seq T (.inr rfl) D hc hd (fun h' hk => h h' hk) hz
  unfold StarOf notIterableAtAll
  exact wpAny_bind (wpAny_specialOf hT' PySem.F.slot_tuple_iter.lookup (wpAny_pure ⟨rfl, z⟩))
end
section
variable {prog : Program} {w : World} {A : Around} {E : Value → Shared → Prop} {s : Shared} {K : Frag} {x C dx : Addr} {ox : Obj} {od : Option Obj} {name : Str}
/-- a method of a class over list, taken as a value -/
theorem get_lst_fn {fa : Addr} {expr : Bool} {Q : Value → Shared → Prop} (X : K.In s.heap) (I : InstAt s.heap x ox C od) (hga : findIn K (.ref C) "__getattribute__" = some (some (.builtin "list.__getattribute__"))) (hk : findIn K (.ref C) "__getattr__" = some none)
    (hm : mroIn K C (.type "list") = some true) (hf : findObj K C od name = some (.bind (.builtin "function.__get__") (.ref fa))) (ht : typeIn K (.ref fa) = some (.type "function"))
    (h : Q (.ref s.heap.objs.size) { s with heap := s.heap.push (methodObj (.ref fa) (.ref x)), toks := s.toks + 1 }) : wpAny (model prog w) A (getAttr (.ref x) name expr) Q E s := by
  obtain ⟨hh', g, d, t, os⟩ := s
  have L0 := I.type (M := model prog w)
  have L1 := looks_findIn (M := model prog w) X hga
  have L2 := looks_findIn (M := model prog w) X hk
  have L3 := looks_find (M := model prog w) X I hf
  unfold getAttr getAttrBy
  refine wpAny_bind (wpAny_mkText (wpAny_holding (wpAny_bind (L0.at (wpAny_bind (L1.at ?_))))))
  show wpAny _ _ (getAttrByItsOwn _ _ _ _ _ _) _ _ _
  unfold getAttrByItsOwn hookBefore
  refine wpAny_bind (L2.at ?_)
  refine wpAny_bind (wpAny_attempt (wpAny_holding ?_))
  unfold callGetattribute boundAndCalled
  have hx : (expr && onTheHeap (.builtin "list.__getattribute__")) = false := by cases expr <;> rfl
  rw [hx, if_neg Bool.false_ne_true, PySem.F.slot_list_getattribute.bind]
  have sub : Looks (model prog w) hh' (isInstance (.ref x) (.type "list")) true := L0.andThen (looks_mroIn X hm)
  refine wpAny_bind (wpAny_pure (wpAny_call (codeAny_call_builtin PySem.F.slot_list_getattribute.plain PySem.F.entry_list_ga
    (@check_slot (model prog w) _ _ ⟨hh', g, d, t + 1, os⟩ "list.__getattribute__" "list" "__getattribute__" (.ref x) [.str name t] [] _ kind_lga split_lga sub (PySem.F.args_list_getattribute_2 _ _) ?_))))
  refine wpAny_bind (wpAny_pure ?_)
  refine wpAny_bind (wpAny_pure ?_)
  refine wpAny_bind (L0.at (wpAny_bind (L3.at ?_)))
  show wpAny _ _ (holding [.ref fa] (call (.builtin "function.__get__") [.ref fa, .ref x, .ref C]) >>= ret) _ _ _
  refine wpAny_bind (wpAny_holding (wpAny_call (fn_get (s := ⟨hh', g, d, t + 1, os⟩) X ht ?_)))
  refine wpAny_pure ?_
  show wpAny _ _ (handedOut _) _ _ _
  rw [handedOut_of rfl]; exact wpAny_pure h
theorem StarCall_ {M : Model} {env : Env} {o e : Expr} {name : Str} {apos pos p : Pos} {Q : Value → Shared → Prop}
    (h : wpAny M A (eval o env) (fun ov s₁ => wpAny M A (getAttr ov name true) (fun fv s₂ => wpAny M A (callWith pos fv [] (backTo pos (starEach [.Starred e p] env)) []) Q E s₂) E s₁) E s)
    (he : eval (.Call (.Attribute o name apos) [.Starred e p] [] pos) env = (do
      let ov ← eval o env
      standAt apos.atName
      let fx ← holding [ov] (do pure (← getAttr ov name true, ([] : List Value)))
      callWith pos fx.1 fx.2 (backTo pos (starEach [.Starred e p] env)) []) := by rfl) :
    wpAny M A (eval (.Call (.Attribute o name apos) [.Starred e p] [] pos) env) Q E s := by
  rw [he]
  refine wpAny_bind (wpAny_mono h (fun ov s₁ h₁ => wpAny_bind (wpAny_standAt (wpAny_bind (wpAny_holding (wpAny_bind (wpAny_mono h₁ (fun fv s₂ h₂ => wpAny_pure h₂) fun _ _ x => x)))))) fun _ _ x => x)
end
section
variable {c : Cx} {f : Fm} {o : Ob} {m : Str → Option Value} {ls : List (List Nat)} {cs : List Nat} {s₀ : Shared} {E : Value → Shared → Prop} {h : Heap} {g : Array GenState} {os : OsState} {tk : Nat}
theorem find_push (P : Params) (t u : Tok) (k : Nat) : findObj (kk P) 185 (some (dictOf (adList P t u) k)) "push" = some (.bind (.builtin "function.__get__") (.ref 129)) := by kernel_rfl
theorem fn_push (P : Params) : fnIn (kk P) 129 = true := by kernel_rfl
/-- a call through a bound method -/
theorem Cf.clM {n : Nat} {q fa x : Addr} {ws : List Value} {pre : Heap → Prop} {post : Value → Heap → List (List Nat) → List Nat → Prop} {dr} {Q : Value → Shared → Prop} (M : MS c n fa o (.ref x :: ws) ls cs pre post) (hn : n ≤ f.d)
    (C : Cf c f o m ls cs s₀ h g os) (hq : h.get? q = some (methodObj (.ref fa) (.ref x))) (hp : pre h) (k : ∀ w s' ls' cs', post w s'.heap ls' cs' → Cf c f o m ls' cs' s₀ s'.heap s'.gens s'.os → (∀ b ob, b ∉ o.mut → h.get? b = some ob → s'.heap.get? b = some ob) → Q w s') :
    wpAny c.M f.A (PySem.call (.ref q) ws) Q E ⟨h, g, dr, tk, os⟩ := by
  have hm := C.lmut
  refine wpAny_call (method_call (s := ⟨h, g, dr, tk, os⟩) hq (M f.A ⟨h, g, dr, tk, os⟩ _ ⟨C.room.handled, by have := C.room.depth; omega, by have := C.room.units; omega⟩ C.w C.st hp fun w s' ls' cs' hq W S kp ho => ?_))
  exact k w s' ls' cs' hq ⟨C.kind, C.room, C.ns.at' fun ob e => kp _ _ hm e, S, W, fun b ob hb e => kp _ _ hb (C.pv b ob hb e), ho.trans C.osE, C.fresh, C.b0, C.nd⟩ kp
theorem ne_part (ch : Nat) : PyData.eqv (.tuple [.str ⟨#[]⟩, .str ⟨#[ch]⟩]) (.tuple [.str " ", .str ""]) = false := by
  have : ((⟨#[]⟩ : Str) == (" " : Str)) = false := by decide +kernel
  simp [PyData.eqv, PyData.eqvAll, this]
theorem shaped_part (ch : Nat) (hc : ch < 1000) : SeqAt.shaped (.tuple [.str ⟨#[]⟩, .str ⟨#[ch]⟩]) = true := by
  simp [SeqAt.shaped, PyData.canLay0, PyData.canLayAll0, PyData.depth, PyData.depthAll, PyData.strOk]
  omega
theorem shaped_sp : SeqAt.shaped (.tuple [.str " ", .str ""]) = true := by
  have h1 : PyData.strOk " " = true := by decide +kernel
  have h2 : PyData.strOk "" = true := by decide +kernel
  simp [SeqAt.shaped, PyData.canLay0, PyData.canLayAll0, PyData.depth, PyData.depthAll, h1, h2]
set_option maxHeartbeats 800000 in
theorem newline_spec (H : HereP c) (n : Nat) (ch : Nat) (hl : cs.length ≤ 900) (hls : ls.length ≤ 900) (hsp : ∀ x ∈ cs ++ [ch], Unicode.isSpace x = false) (hch : ch < 1000) :
    MS c (n + 5) 63 o [.ref o.F] ls (cs ++ [ch]) (fun _ => True) fun v _ ls' cs' => v = .none ∧ ls' = ls ++ [cs ++ [ch]] ∧ cs' = [] := by
  refine' MS.intro H.H.ok (xs := ["self"]) (vs := [.ref o.F]) ?ho ?hcd ?hbind ?hl ?hcell ?hpre ?h ?hco ?hgen ?hk
  case ho => rw [H.H.K]; with_unfolding_all rfl
  case hcd => rw [H.H.K]; kernel_rfl
  case hbind => intro s W; exact BindsTo.of_eq (by with_unfolding_all rfl)
  case hl => decide
  case hcell => decide
  case hpre => intros; trivial
  case hco => rfl
  case hgen => rfl
  case hk => rfl
  case h =>
    intro f
    rintro s₀ ⟨h, g, dr, tk, os⟩ E Q C - k
    refine wpAny_execs_cons (wpAny_Assign_Name (MethodCall_ (C.line H.H rfl rfl fun tk => C.mA H.H (m_pop _) (callWith_fn0 (C.kx H.H) (m_pop _).2.2 ?_))))
    refine Cf.cl (pop_spec H (n + 2) ch (by omega)) (Nat.le_refl _) C trivial ?_
    rintro v ⟨h, g, dr, tk, os⟩ ls cs ⟨hv, rfl, rfl⟩ C -
    obtain ⟨T, t1, t2, rfl, hT⟩ := part_tup hv
    refine C.st' rfl fun h' tk C' hsb => ?_
    have hT' : IsTup h' T #[.str ⟨#[]⟩ t1, .str ⟨#[ch]⟩ t2] := by
      obtain ⟨ob, ho, r⟩ := hT
      exact ⟨ob, (Heap.SameBut.extBut hsb) _ _ (not_tup_ns C.ns ⟨ob, ho, r⟩) ho, r⟩
    refine wpAny_execs_cons (wpAny_If (wpAny_isTrue_Compare1 (C'.nm rfl (by walk_at "mk") ?_) (by with_unfolding_all rfl)))
    refine wpAny_Tuple (wpAny_items_cons (wpAny_Constant_str (wpAny_items_cons (wpAny_Constant_str (wpAny_items_nil ⟨by rw [sizeLine_eq]; simp, ?_⟩)) rfl)) rfl)
    have x₁ := Ext.push h' { cls := .type "tuple", data := .seq #[.str " " tk, .str "" (tk + 1)] }
    have hT₁ := hT'.keeps x₁
    have C₁ := C'.ext x₁ C'.w.bare rfl
    obtain ⟨obT, hoT, hcT, nT, hdT⟩ := id hT₁
    refine ne_dataH (reads_tuple_at hoT hcT hdT (.cons (.str _ _) (.cons (.str _ _) .nil))) (reads_tuple_at (Heap.get?_push_size _ rfl) rfl rfl (.cons (.str _ _) (.cons (.str _ _) .nil))) (shaped_part ch hch) shaped_sp ?_ (wpAny_truthy_bool ?_)
    · have := C'.room.units
      show f.A.units + 64 < cLine
      change f.A.units + 40 * (n + 4) < cLine at this
      omega
    rw [ne_part, if_pos (by rfl)]
    refine wpAny_execs_cons (wpAny_Expr_any (StarCall_ (C₁.line H.H rfl (by walk_at "mk") fun tk₁ => ?_)))
    obtain ⟨its, n', t, u, kx, e1, e2, e3⟩ := C₁.st.acc
    refine get_lst_fn (s := ⟨_, g, dr, tk₁, os⟩) (C₁.kx H.H) (inst_A e1 e3) (ga_A _) (gt_A _) (mro_A _) (find_push _ _ _ _) (m_push _).2.1 ?_
    have x₂ := Ext.push (h'.push { cls := .type "tuple", data := .seq #[.str " " tk, .str "" (tk + 1)] }) (methodObj (.ref 129) (.ref o.AC))
    have C₂ := C₁.ext x₂ C₁.w.bare rfl
    have hq₂ : ((h'.push { cls := .type "tuple", data := .seq #[.str " " tk, .str "" (tk + 1)] }).push (methodObj (.ref 129) (.ref o.AC))).get? (h'.push { cls := .type "tuple", data := .seq #[.str " " tk, .str "" (tk + 1)] }).objs.size = some (methodObj (.ref 129) (.ref o.AC)) := Heap.get?_push_size _ rfl
    refine ks_call (P := MethP (kk c.w.params) _ 129 (.ref o.AC)) rfl (keeps_M (fn_push _)) (ks_lone (C₂.nm rfl (by walk_at "mk") ?_))
    refine star_tup (hT₁.keeps x₂) (by rw [sizeLine_eq]; simp) fun h₃ x₃ => ?_
    have C₃ := C₂.ext (h' := h₃) x₃ C₂.w.bare rfl
    refine ⟨⟨x₃ _ _ hq₂, C₃.kx H.H⟩, ?_⟩
    refine Cf.clM (push_spec H.H (n + 3) t1 t2 ch (by omega)) (Nat.le_refl _) C₃ (x₃ _ _ hq₂) trivial ?_
    rintro _ ⟨h, g, dr, tk, os⟩ ls _ ⟨rfl, rfl, rfl⟩ C -
    refine wpAny_execs_nil ?_
    refine wpAny_execs_cons (wpAny_If (wpAny_isTrue_Compare1 (C.lenLine H rfl (by walk_at "mk") rfl (by show 2 ≤ n + 4; omega) (by simp; omega) ?_) (by with_unfolding_all rfl)))
    rintro t ⟨h, g, dr, tk, os⟩ C
    refine wpAny_Constant_int (PyProof.Rows.gt_int (wpAny_truthy_bool ?_))
    rw [if_pos (by simp <;> omega)]
    refine wpAny_execs_cons (wpAny_If (wpAny_isTrue_BoolOp (wpAny_allTrue_And_cons (wpAny_isTrue_value (MethodCall_ (C.line H.H rfl (by walk_at "mk") fun tk => C.mA H.H (m_only _) (callWith_fn0 (C.kx H.H) (m_only _).2.2 ?_)))))))
    obtain ⟨a, r, har⟩ : ∃ a r, cs ++ [ch] = a :: r := by
      cases hh : cs ++ [ch] with
      | nil => simp at hh
      | cons a r => exact ⟨a, r, rfl⟩
    refine Cf.cl (only_spec H (n + 1) a r har (hsp a (by rw [har]; simp)) (by simp; omega)) (Nat.le_refl _) C trivial ?_
    rintro _ ⟨h, g, dr, tk, os⟩ _ _ ⟨rfl, rfl, rfl⟩ C -
    refine wpAny_truthy_bool ?_
    rw [if_neg Bool.false_ne_true]
    rw [if_neg Bool.false_ne_true]
    refine wpAny_execs_cons (C.putLine H rfl (by walk_at "mk") rfl (by show 2 ≤ n + 4; omega) (by simp; omega) (by omega) (fun s C kp => ?_) (by rfl))
    obtain ⟨h, g, dr, tk, os⟩ := s
    refine wpAny_execs_nil (wpAny_execs_nil ?_)
    refine wpAny_execs_cons (wpAny_Expr_any (MethodCall_ (C.line H.H rfl (by walk_at "mk") fun tk => C.mA H.H (m_reset _) (callWith_fn0 (C.kx H.H) (m_reset _).2.2 ?_))))
    refine Cf.cl (reset0_spec H.H (n + 3) (by simp; omega)) (Nat.le_refl _) C trivial ?_
    rintro _ ⟨h, g, dr, tk, os⟩ _ _ ⟨rfl, rfl, rfl⟩ C -
    refine wpAny_execs_nil ?_
    exact k .next _ _ _ _ ⟨rfl, rfl, rfl⟩ C
end
end
section
open _root_.PySem _root_.PySem.W _root_.PySem.Calls _root_.PyProof.Rows _root_.PySem.Builtin _root_.PySem.Builtin.ObjectAttr _root_.PySem.Builtin.List
set_option linter.unusedVariables false
set_option linter.unusedSimpArgs false
set_option linter.deprecated false
set_option maxRecDepth 100000
section
variable {c : Cx} {f : Fm} {o : Ob} {m : Str → Option Value} {ls : List (List Nat)} {cs : List Nat} {s₀ : Shared} {E : Value → Shared → Prop} {h : Heap} {g : Array GenState} {os : OsState} {tk : Nat}
theorem mF_newline (P : Params) : MethOf P 101 "newline" 63 := ⟨by kernel_rfl, by kernel_rfl, by kernel_rfl⟩
theorem mF_append (P : Params) : MethOf P 101 "_append_chunk" 98 := ⟨by kernel_rfl, by kernel_rfl, by kernel_rfl⟩
theorem mF_str (P : Params) : MethOf P 101 "_str" 49 := ⟨by kernel_rfl, by kernel_rfl, by kernel_rfl⟩
theorem sh_newline (P : Params) (k v : Nat → Tok) (LI AC : Addr) (n : Nat) : shadowIn (some (dictOf (fdList P k v LI AC) n)) "newline" = some false := by kernel_rfl
theorem sh_append (P : Params) (k v : Nat → Tok) (LI AC : Addr) (n : Nat) : shadowIn (some (dictOf (fdList P k v LI AC) n)) "_append_chunk" = some false := by kernel_rfl
theorem sh_str (P : Params) (k v : Nat → Tok) (LI AC : Addr) (n : Nat) : shadowIn (some (dictOf (fdList P k v LI AC) n)) "_str" = some false := by kernel_rfl
theorem Cf.mF {name : Str} {fa : Addr} {pl : Sem Bool} {dr} {Q : Value × List Value → Shared → Prop} (H : Here c) (C : Cf c f o m ls cs s₀ h g os) (hm : MethOf c.w.params 101 name fa)
    (hs : ∀ k v n, shadowIn (some (dictOf (fdList c.w.params k v o.LI o.AC) n)) name = some false) (q : Q (.ref fa, [.ref o.F]) ⟨h, g, dr, tk, os⟩) :
    wpAny c.M f.A (getMethod (.ref o.F) name pl) Q E ⟨h, g, dr, tk, os⟩ := by
  obtain ⟨k, v, n, fd⟩ := C.st.fd
  exact method_fn (s := ⟨h, g, dr, tk, os⟩) (C.kx H) (inst_F C.st.f fd) (ga_F _) (gt_F _) hm.1 hm.2.1 (hs k v n) q
noncomputable abbrev strsOf (ls : List (List Nat)) : List Str := ls.map fun l => ⟨l.toArray⟩
theorem strs_are : ∀ {ls : List (List Nat)} {ws : List Value}, All2 PR (ls.map V.str) ws → StrsAre ws (strsOf ls)
  | [], [], _ => .nil
  | _ :: _, _ :: _, ⟨⟨t, e⟩, r⟩ => by subst e; exact .cons _ t (strs_are r)
  | [], _ :: _, x => x.elim
  | _ :: _, [], x => x.elim
set_option maxHeartbeats 800000 in
theorem strF_spec (H : HereP c) (n : Nat) (ch : Nat) (sep : Str) (ts : Tok) (hsep : sep.length ≤ 16) (hl : cs.length ≤ 900) (hls : ls.length ≤ 900) (hsp : ∀ x ∈ cs ++ [ch], Unicode.isSpace x = false) (hch : ch < 1000)
    (hw : ((strsOf (ls ++ [cs ++ [ch]])).map (·.length)).sum + (strsOf (ls ++ [cs ++ [ch]])).length ≤ 1048576) :
    MS c (n + 6) 49 o [.ref o.F, .str sep ts] ls (cs ++ [ch]) (fun _ => True) fun v _ ls' cs' => (∃ t, v = .str (Txt.join sep (strsOf (ls ++ [cs ++ [ch]]))) t) ∧ ls' = ls ++ [cs ++ [ch]] ∧ cs' = [] := by
  refine' MS.intro H.H.ok (xs := ["self", "linesep"]) (vs := [.ref o.F, .str sep ts]) ?ho ?hcd ?hbind ?hl ?hcell ?hpre ?h ?hco ?hgen ?hk
  case ho => rw [H.H.K]; with_unfolding_all rfl
  case hcd => rw [H.H.K]; kernel_rfl
  case hbind => intro s W; exact BindsTo.of_eq (by with_unfolding_all rfl)
  case hl => decide
  case hcell => decide
  case hpre => intros; trivial
  case hco => rfl
  case hgen => rfl
  case hk => rfl
  case h =>
    intro f
    rintro s₀ ⟨h, g, dr, tk, os⟩ E Q C - k
    refine wpAny_execs_cons (wpAny_Expr_any (MethodCall_ (C.nm rfl rfl (C.mF H.H (mF_newline _) (fun _ _ _ => sh_newline _ _ _ _ _ _) (callWith_fn0 (C.kx H.H) (mF_newline _).2.2 ?_)))))
    refine Cf.cl (newline_spec H n ch hl hls hsp hch) (Nat.le_refl _) C trivial ?_
    rintro _ ⟨h, g, dr, tk, os⟩ _ _ ⟨rfl, rfl, rfl⟩ C -
    refine wpAny_execs_cons (wpAny_Return_some (MethodCall_ (C.nm rfl rfl (GM.join (callWith_method1 ?_)))))
    refine wpAny_items_cons (C.linesN H.H rfl rfl fun tk => wpAny_items_nil ?_) rfl
    obtain ⟨its, ⟨n4, e4⟩, q4⟩ := id C.st.li
    refine join_listW (ys := strsOf (ls ++ [cs ++ [ch]])) (items := its) ⟨_, e4, rfl, _, rfl⟩ (strs_are q4) hsep hw fun t' kk => ?_
    exact k (.ret _) ⟨h, g, dr, _, os⟩ _ _ _ ⟨⟨_, rfl⟩, rfl, rfl⟩ C
end
end
section
open _root_.PySem _root_.PySem.W _root_.PySem.Calls _root_.PyProof.Rows _root_.PySem.Builtin _root_.PySem.Builtin.ObjectAttr _root_.PySem.Builtin.List
set_option linter.unusedVariables false
set_option linter.unusedSimpArgs false
set_option linter.deprecated false
set_option maxRecDepth 100000
theorem recA (P : Params) : ∃ oc od cd sl, (kk P).lookup 185 = some ⟨oc, od, .cls cd, sl⟩ ∧ cd.hasDel = false := ⟨_, _, _, _, by with_unfolding_all rfl, by kernel_rfl⟩
section
variable {M : Model} {h : Heap} {P : Params}
theorem madeA (X : (kk P).In h) : Looks M h (Bind.madeBy (.ref 185)) (some "list.__new__") := .of_peek X (by kernel_rfl)
theorem selfA (X : (kk P).In h) : Looks M h (isSubtype (.ref 185) (.ref 185)) true := .of_peek X (by kernel_rfl)
theorem topA (X : (kk P).In h) : Looks M h (isSubtype (.ref 185) (.type "list")) true := .of_peek X (by kernel_rfl)
theorem callA (X : (kk P).In h) : Looks M h (specialOf (.ref 185) "__call__") (some (.builtin "type.__call__")) := .of_peek X (by kernel_rfl)
theorem isTypeA (X : (kk P).In h) : Looks M h (isType (.ref 185)) true := .of_peek X (by kernel_rfl)
theorem hasDelA (X : (kk P).In h) : Looks M h (classHasDel 185) false := .of_peek X (by kernel_rfl)
theorem checkNewA (X : (kk P).In h) (a : Value) : Looks M h (checkBuiltinCall "list.__new__" ⟨[.ref 185, a], []⟩) () := .of_peek X (by kernel_rfl)
theorem checkCallA (X : (kk P).In h) (a : Value) : Looks M h (checkBuiltinCall "type.__call__" ⟨[.ref 185, a], []⟩) () := .of_peek X (by kernel_rfl)
end
section
variable {prog : Program} {w : World} {A : Around} {P : Params} {R : Result → Shared → Prop} {h : Heap} {g : Array GenState} {d : Drawn} {t : Nat} {os : OsState}
noncomputable abbrev accObj (C dx : Addr) : Obj := lsub C dx #[] 0
/-- list.__new__ for the class: a new dict and an empty row -/
theorem new_A {a : Value} (X : (kk P).In h) (hq : R (.ok (.ret (.ref (h.objs.size + 1)))) ⟨(h.push emptyDict).push (accObj 185 h.objs.size), g, d, t, os⟩) :
    codeAny (model prog w) A (.call (.builtin "list.__new__") ⟨[.ref 185, a], []⟩) R ⟨h, g, d, t, os⟩ := by
  refine codeAny_of_tree ?_
  show wpAny _ A.in1 (do checkBuiltinCall "list.__new__" ⟨[.ref 185, a], []⟩; again (.builtin "list.__new__" ⟨[.ref 185, a], []⟩)) _ _ _
  refine wpAny_bind ((checkNewA X a).at (wpAny_pure ⟨plainId_quiet PySem.F.plain_list_new _, codeAny_builtin_stack PySem.F.entry_list_new rfl fun p st => ?_⟩))
  rw [Around.under_plainId PySem.F.plain_list_new _]
  have own := owner_list_new
  have L1 := isTypeA (M := model prog w) X
  have L2 := topA (M := model prog w) X
  have X' : (kk P).In ((h.push emptyDict).push (accObj 185 h.objs.size)) := X.keeps fun _ _ e => Heap.get?_push_of_some _ (Heap.get?_push_of_some _ e)
  have L3 := hasDelA (M := model prog w) X'
  simp only [own]
  repeat (first | lk | simp only [Bool.not_true, Bool.false_eq_true, if_false])
  show R _ _
  rw [Heap.size_push]
  exact hq
/-- the class called with one argument: list.__new__, and then __init__ as it stands on the class -/
theorem make_A {a init : Value} (X : (kk P).In h) (hi : Looks (model prog w) h (typeLookup (.ref 185) "__init__") (some init)) (hb : ∀ self, Looks (model prog w) h (bindSpecial init self) (init, [self]))
    (hq : codeAny (model prog w) (A.under (.builtin "type.__call__" ⟨[.ref 185, a], []⟩)) (.call init ⟨[.ref (h.objs.size + 1), a], []⟩) (InitBack (h.objs.size + 1) R) ⟨(h.push emptyDict).push (accObj 185 h.objs.size), g, d, t, os⟩) :
    codeAny (model prog w) A (.call (.ref 185) ⟨[a], []⟩) R ⟨h, g, d, t, os⟩ := by
  obtain ⟨oc, od, cd, sl, ho, -⟩ := recA P
  have hC := X _ _ ho
  have L1 := callA (M := model prog w) X
  have L2 := mroA (M := model prog w) X
  have L3 := madeA (M := model prog w) X
  refine codeAny_of_tree ?_
  show wpAny _ _ (callAny (.ref 185) _) _ _ _
  unfold callAny callAny.viaDunder
  repeat (first | lk | rw [tc_bind])
  refine ⟨rfl, codeAny_call_builtin_at (Code.quiet_builtin _ (by decide +kernel)) entry_typeCall ((checkCallA X a).here ?_)⟩
  unfold Builtin.«type.__call__»
  repeat (first | with_reducible refine wpAny_call ?_ | lk)
  refine new_A X ?_
  have up : ∀ b o, h.get? b = some o → ((h.push emptyDict).push (accObj 185 h.objs.size)).get? b = some o := fun _ _ e => Heap.get?_push_of_some _ (Heap.get?_push_of_some _ e)
  have hx : ((h.push emptyDict).push (accObj 185 h.objs.size)).get? (h.objs.size + 1) = some (accObj 185 h.objs.size) := by heap_get
  have L4 : Looks (model prog w) ((h.push emptyDict).push (accObj 185 h.objs.size)) (typeOf (.ref (h.objs.size + 1))) (.ref 185) := (Looks.ld hx).andThen .now
  have L5 := selfA (M := model prog w) (X.keeps up)
  have L6 := hi.keeps up
  have L7 := (hb (.ref (h.objs.size + 1))).keeps up
  unfold isInstance callSpecial? specialOf
  repeat (first | with_reducible refine wpAny_call ?_ | lk)
  refine codeAny_mono hq fun r s' z => ?_
  rcases r with e | f
  · exact z
  · cases f with
    | ret v => obtain ⟨rfl, z⟩ := z; exact wpAny_pure (wpAny_pure z)
    | _ => exact z.elim
end
end
section
open _root_.PySem _root_.PySem.W _root_.PySem.Calls _root_.PyProof.Rows _root_.PySem.Builtin _root_.PySem.Builtin.ObjectAttr _root_.PySem.Builtin.List
set_option linter.unusedVariables false
set_option linter.unusedSimpArgs false
set_option linter.deprecated false
set_option maxRecDepth 100000
section
variable {c : Cx} {A : Around} {s : Shared} {R : Result → Shared → Prop}
/-- into the body of a def that closes over __class__ -/
theorem defAt_intro {n : Nat} {fa : Addr} {ws : List Value} (ok : c.Ok) {name qual : Str} {params : Arguments} {body : List Stmt} {scope : Scope} {dV kV doc pm cdv ct oc : Value} {an od : Option Addr} {osl : Array (Option Value)} {xs : List String} {vs : List Value}
    (ho : c.K.lookup fa = some ⟨oc, od, .func (fnX name qual params body scope cells9 dV kV doc pm an cdv ct), osl⟩) (hcd : codeIn c.K cdv qual = true)
    (hbind : BindsTo s (fnX name qual params body scope cells9 dV kV doc pm an cdv ct) ⟨ws, []⟩ ((xs.map Str.ofString).zip vs))
    (hl : ∀ x ∈ xs, scope.names.lookup (Str.ofString x) = some .local) (hcell : ∀ x ∈ scope.names, x.2 ≠ .cell) (hr : Room A (n + 1)) (b : Ext c.h₀ s.heap)
    (h : ∀ (f : Fm) (h₁ : Heap) (tk : Nat) (E : Value → Shared → Prop), f = { sc := scope, L := s.heap.objs.size, cells := cells9, qual := f.qual, func := some fa, code := cdv, frame := f.frame, A := f.A, he := s.heap, d := n } → Room f.A n →
      h₁.Ns f.L (fun x => ((xs.map Str.ofString).zip vs).reverse.lookup x) → Ext s.heap h₁ →
      _root_.PySem.wpAt c.M f.A (.func body f.env) (execs body f.env) (fun fl s' => R (.ok (.ret (match fl with | .ret v => v | _ => .none))) s') E ⟨h₁, s.gens, s.drawn, tk, s.os⟩)
    (hco : scope.isCoroutine = false := by rfl) (hgen : scope.isGenerator = false := by rfl) (hk : scope.kind = .function := by rfl) : codeAny c.M A (.call (.ref fa) ⟨ws, []⟩) R s := by
  generalize hbd : (xs.map Str.ofString).zip vs = binds at *
  have hl : ∀ y ∈ binds, scope.names.lookup y.1 = some .local := by
    intro y hy
    rw [← hbd] at hy
    obtain ⟨x, hx', e⟩ := List.mem_map.mp (List.of_mem_zip hy).1
    rw [← e]; exact hl x hx'
  refine ks_codeAny_call_defAt (fd := fnX name qual params body scope cells9 dV kV doc pm an cdv ct) (binds := binds) hr.lt (b _ _ (ok.k _ _ ho)) rfl (ok.nolimit.keeps b) ((codeRec_of ok.k hcd).keeps b) rfl
    hbind hcell hl (fun h₁ hns hk₁ => ?_) hco hgen hk
  let f : Fm := { sc := scope, L := s.heap.objs.size, cells := cells9, qual := qual ++ ".<locals>.", func := some fa, code := cdv, frame := some s.heap.objs.size, A := A.deeper (callEnv (fnX name qual params body scope cells9 dV kV doc pm an cdv ct) s.heap.objs.size fa), he := s.heap, d := n }
  exact h f h₁ _ _ rfl ⟨hr.handled, hr.depth1, hr.units1⟩ hns hk₁
/-- into the body of a plain def -/
theorem def_intro {n : Nat} {fa : Addr} {ws : List Value} (ok : c.Ok) {name qual : Str} {params : Arguments} {body : List Stmt} {scope : Scope} {dV kV doc pm cdv ct oc : Value} {an od : Option Addr} {osl : Array (Option Value)} {xs : List String} {vs : List Value}
    (ho : c.K.lookup fa = some ⟨oc, od, .func (fnOf name qual params body scope dV kV doc pm an cdv ct), osl⟩) (hcd : codeIn c.K cdv qual = true)
    (hbind : BindsTo s (fnOf name qual params body scope dV kV doc pm an cdv ct) ⟨ws, []⟩ ((xs.map Str.ofString).zip vs))
    (hl : ∀ x ∈ xs, scope.names.lookup (Str.ofString x) = some .local) (hcell : ∀ x ∈ scope.names, x.2 ≠ .cell) (hr : Room A (n + 1)) (b : Ext c.h₀ s.heap)
    (h : ∀ (f : Fm) (h₁ : Heap) (tk : Nat) (E : Value → Shared → Prop), f = { sc := scope, L := s.heap.objs.size, cells := [], qual := f.qual, func := f.func, code := cdv, frame := f.frame, A := f.A, he := s.heap, d := n } → Room f.A n →
      h₁.Ns f.L (fun x => ((xs.map Str.ofString).zip vs).reverse.lookup x) → Ext s.heap h₁ →
      wpAny c.M f.A (execs body f.env) (fun fl s' => R (.ok (.ret (match fl with | .ret v => v | _ => .none))) s') E ⟨h₁, s.gens, s.drawn, tk, s.os⟩)
    (hco : scope.isCoroutine = false := by rfl) (hgen : scope.isGenerator = false := by rfl) (hk : scope.kind = .function := by rfl) : codeAny c.M A (.call (.ref fa) ⟨ws, []⟩) R s := by
  generalize hbd : (xs.map Str.ofString).zip vs = binds at *
  have hl : ∀ y ∈ binds, scope.names.lookup y.1 = some .local := by
    intro y hy
    rw [← hbd] at hy
    obtain ⟨x, hx', e⟩ := List.mem_map.mp (List.of_mem_zip hy).1
    rw [← e]; exact hl x hx'
  refine codeAny_call_def (fd := fnOf name qual params body scope dV kV doc pm an cdv ct) (binds := binds) hr.lt (b _ _ (ok.k _ _ ho)) rfl (ok.nolimit.keeps b) ((codeRec_of ok.k hcd).keeps b) rfl
    hbind hcell hl (fun h₁ hns hk₁ => ?_) hco hgen hk
  let f : Fm := { sc := scope, L := s.heap.objs.size, cells := [], qual := qual ++ ".<locals>.", func := some fa, code := cdv, frame := some s.heap.objs.size, A := A.deeper (callEnv (fnOf name qual params body scope dV kV doc pm an cdv ct) s.heap.objs.size fa), he := s.heap, d := n }
  exact h f h₁ _ _ rfl ⟨hr.handled, hr.depth1, hr.units1⟩ hns hk₁
end
section
variable {c : Cx} {f : Fm} {s : Shared} {E : Value → Shared → Prop}
/-- super(), the objects told apart from a frame's facts -/
theorem super_nodeG (H : Here c) {body : List Stmt} {p0 p1 : Pos} {attr : Str} {whole : Sem Value} {fd : FuncData} {ar : Arg} {vs : Array Value} {tf : Tok} {oc ccl : Value} {fa cda AC Ad : Addr} {its : Array Value} {n : Nat} {od cdd : Option Addr} {osl ccs : Array (Option Value)} {m : Str → Option Value} {Q : Value → Shared → Prop}
    (hkind : f.sc.kind = .function) (hns : s.heap.Ns f.L m) (hb : Ext c.h₀ s.heap) (e1 : s.heap.get? AC = some (lsub 185 Ad its n)) (hP : (c.prog.main.file : Str) = "/claim/cut.py" ∧ (c.prog.main.scope.names.lookup ("super" : Str)).isSome = false)
    (hf : c.K.lookup fa = some ⟨oc, od, .func fd, osl⟩) (hp : (fd.params.posonlyargs ++ fd.params.args).head? = some ar) (hv : m ar.arg = some (.ref AC))
    (hcode : c.K.lookup cda = some ⟨ccl, cdd, .fields vs, ccs⟩) (hvs : vs[2]? = some (.str "/claim/cut.py" tf))
    (hcell : c.K.lookup 109 = some ⟨.type "cell", none, .cell (some (.ref 185)), #[]⟩)
    (hat : (attr == ("__class__" : Str)) = false) (hks : f.sc.names.lookup ("super" : Str) = some .globalImplicit) (hkc : f.sc.names.lookup ("__class__" : Str) = some .free) (hka : f.sc.names.lookup ar.arg = some .local)
    (hcl : f.cells = cells9) (hfu : f.func = some fa) (hco : f.code = .ref cda)
    (hboot : bootBuiltins "super" = some (.type "super"))
    (h : ∀ so h', h'.get? so = some { cls := .type "super", dict := none, data := .fields #[.ref 185, .ref AC, .ref 185], slots := #[] } → Ext s.heap h' → Q (.ref so) { s with heap := h' }) :
    _root_.PySem.wpAt c.M f.A (.func body f.env) (attributeBase (.Call (.Name "super" p0) [] [] p1) attr f.env whole) Q E s := by
  have ok := H.ok
  have X := ok.k.keeps hb
  have X' := X
  rw [H.K] at X'
  obtain ⟨cd, hcd, hmro, _, _⟩ := cls_A c.w.params
  obtain ⟨hh, g, d, t, os⟩ := s
  obtain ⟨oD, hD1, hD2⟩ : ∃ oD, hh.get? 185 = some oD ∧ oD.data = .cls cd := by
    unfold clsIn at hcd
    split at hcd
    · rename_i c d cd' sl ho
      cases hcd
      exact ⟨_, X' _ _ ho, rfl⟩
    · cases hcd
  refine ks_wpAt_super_base (env := f.env) hks hkc hat hfu (X _ _ hf) rfl hp hco (X _ _ hcode) rfl hvs (by rw [hP.1]; decide) hP.2 ?_
  refine ks_loadName_global hkind hks (loadGlobal_builtin (env := f.env) (ok.g.keeps hb) (ns_none_of ok.k ok.g (by rw [H.K]; exact noSuper _)) (ok.b.keeps hb) ((ok.builtins _ (by decide +kernel)).trans hboot) ⟨rfl, ?_⟩)
  refine wpAny_loadName_free (env := f.env) hkind hkc (by show f.cells.lookup _ = _; rw [hcl]; rfl) ⟨_, X _ _ hcell, rfl⟩ ?_
  refine wpAny_loadName_local (env := f.env) hkind hka hns hv ?_
  refine ks_wpAny_isType_cls hD1 hD2 ⟨rfl, ?_⟩
  refine ks_wpAny_call_super hD1 hD2 e1 rfl (fun c e => by cases e) (looks_mroIn X' (by unfold mroIn; rw [hcd, Option.bind_some, hmro]; rfl)) (fun h' e k => ?_)
  exact h _ _ e k
theorem plain_li : plainId "list.__init__" = true := by decide +kernel
theorem kind_li : builtinKind "list.__init__" = some .slot := by decide +kernel
theorem argI (x : Addr) : argsOk "list.__init__" ⟨[.ref x], []⟩ := PySem.F.args_list_init_1 (.ref x)
theorem check_init {prog : Program} {w : World} {A : Around} {x : Addr} {Q : Unit → Shared → Prop} (q : Q () s) : wpAny (model prog w) A (checkBoundCall "list.__init__" ⟨[.ref x], []⟩) Q E s := by
  have h := @bound_check_slot prog w A E s x "list.__init__" [] Q kind_li
  have h2 := h (argI x) q
  exact h2
theorem put_size (P : Params) (t u : Tok) : Obj.putName "_initial_size" (PyData.keyHash P "_initial_size") (.str "_initial_size" t) (.int 0 u) emptyDict = dictOf (adList P t u) 1 := by with_unfolding_all rfl
/-- _Accumulator.__init__(self, 0) -/
theorem initA_spec (H : HereP c) {A : Around} {R : Result → Shared → Prop} {x dx : Addr} {t0 : Tok} (hr : Room A 1) (b : Ext c.h₀ s.heap) (ex : s.heap.get? x = some (accObj 185 dx)) (ed : s.heap.get? dx = some emptyDict)
    (hx : c.h₀.get? x = none) (hdx : c.h₀.get? dx = none)
    (k : ∀ s' n t u kk, s'.heap.get? x = some (lsub 185 dx #[] n) → s'.heap.get? dx = some (dictOf (adList c.w.params t u) kk) → (∀ b ob, b ≠ x → b ≠ dx → s.heap.get? b = some ob → s'.heap.get? b = some ob) → s'.gens = s.gens → s'.os = s.os → R (.ok (.ret .none)) s') :
    codeAny c.M A (.call (.ref 122) ⟨[.ref x, .int 0 t0], []⟩) R s := by
  refine' defAt_intro (n := 0) H.H.ok (xs := ["self", "initial_size"]) (vs := [.ref x, .int 0 t0]) ?ho ?hcd ?hbind ?hl ?hcell hr b ?h ?hco ?hgen ?hk
  case ho => rw [H.H.K]; with_unfolding_all rfl
  case hcd => rw [H.H.K]; kernel_rfl
  case hbind => have X := H.H.ok.k.keeps b; rw [H.H.K] at X; exact kp_binds X (fun S => by with_unfolding_all rfl)
  case hl => decide
  case hcell => decide
  case hco => rfl
  case hgen => rfl
  case hk => rfl
  case h =>
    intro f h₁ tk E hf hroom hns x₁
    rw [hf] at hns ⊢
    have b₁ := b.trans x₁
    have X₁ := H.H.ok.k.keeps b₁
    rw [H.H.K] at X₁
    obtain ⟨cd, hcd, hmro, hq, hdict⟩ := cls_A c.w.params
    have hne : x ≠ dx := ne_cls ex ed (by simp)
    refine ks_wpAt_execs_cons (wpAt_of_wpAny (plainObj_wpAny_Assign_Attribute (wpAny_Name (wpAny_loadName_local rfl rfl hns rfl ?_) (by decide +kernel)) (by rfl)))
    refine wpAny_Name (wpAny_loadName_local rfl rfl hns rfl ?_) (by decide +kernel)
    refine set_inst (K := kk c.w.params) (s := ⟨h₁, s.gens, s.drawn, tk, s.os⟩) (od := emptyDict) (od' := dictOf (adList c.w.params (tk + 1) t0) 1) (es := adList c.w.params (tk + 1) t0) (n := 1) X₁ ⟨x₁ _ _ ex, rfl, rfl, x₁ _ _ ed⟩ rfl hcd (by rw [hmro]; exact refuse_list _ _) (by rw [hmro]; decide) (sa_A _) (taker_A _) hdict (by rfl) (put_size _ _ _) rfl (by simp) fun h₂ hs₂ e₂ => ?_
    have y₂ := Heap.SameBut.extBut hs₂
    have hdx' : dx < s.heap.objs.size := Heap.lt_size ed
    have hxlt : x < s.heap.objs.size := Heap.lt_size ex
    have b₂ : Ext c.h₀ h₂ := fun a ob e => y₂ _ _ (fun q => by rw [q, hdx] at e; cases e) (b₁ _ _ e)
    have hns₂ := hns.at' (h' := h₂) fun ob e => y₂ _ _ (Nat.ne_of_gt hdx') e
    have ex₂ := y₂ _ _ hne (x₁ _ _ ex)
    have X₂ := H.H.ok.k.keeps b₂
    rw [H.H.K] at X₂
    refine ks_wpAt_execs_cons (ks_wpAt_Expr_any (ks_wpAt_MethodCall ?_))
    refine' super_nodeG H.H (its := #[]) (n := 0) (Ad := dx) rfl hns₂ b₂ ex₂ ⟨H.file, H.nosup⟩ ?hf ?hp ?hv ?hcode ?hvs ?hcell2 (by decide +kernel) ?hks ?hkc ?hka rfl rfl rfl Boot.super ?_
    case hf => rw [H.H.K]; with_unfolding_all rfl
    case hp => exact rfl
    case hv => exact rfl
    case hcode => rw [H.H.K]; with_unfolding_all rfl
    case hvs => exact rfl
    case hcell2 => rw [H.H.K]; exact cell_A _
    case hks => kernel_rfl
    case hkc => kernel_rfl
    case hka => kernel_rfl
    intro so h₃ hso x₃
    have X₃ := X₂.keeps x₃
    have I₃ := inst_A (x₃ _ _ ex₂) (x₃ _ _ e₂)
    refine super_method (s := ⟨h₃, s.gens, s.drawn, _, s.os⟩) X₃ hso (ks_ne X₃ I₃ hcd) (by decide +kernel) (.of_peek X₃ (by kernel_rfl)) ty_init slot_wd_get.lookup (fun _ _ _ _ e q => call_wd_get (e ▸ Looks.lst X₃ I₃) ty_init own_init q) ?_
    have x₄ := Ext.push h₃ (boundB "method-wrapper" "list.__init__" x)
    have e₄ := x₄ _ _ (x₃ _ _ ex₂)
    have hb : (h₃.push (boundB "method-wrapper" "list.__init__" x)).get? h₃.objs.size = some (boundB "method-wrapper" "list.__init__" x) := Heap.get?_push_size _ rfl
    refine callWith_bound (s := ⟨h₃.push _, s.gens, s.drawn, _, s.os⟩) hb (.inr rfl) ?_
    refine call_bound_b (id := "list.__init__") (k := "method-wrapper") (x := x) (args := []) (s := ⟨h₃.push (boundB "method-wrapper" "list.__init__" x), s.gens, s.drawn, _, s.os⟩) hb (.inr rfl) plain_li PySem.F.entry_list_init (fun A E Q q => check_init q) ?_
    refine body_init (s := ⟨h₃.push _, s.gens, s.drawn, _, s.os⟩) e₄ fun h₅ n₅ e₅ hs₅ => ?_
    have y₅ := Heap.SameBut.extBut hs₅
    refine wpAt_of_wpAny (wpAny_execs_nil ?_)
    refine k _ n₅ (tk + 1) t0 1 e₅ (y₅ _ _ (Ne.symm hne) (x₄ _ _ (x₃ _ _ e₂))) (fun a ob h1 h2 e => y₅ _ _ h1 (x₄ _ _ (x₃ _ _ (y₂ _ _ h2 (x₁ _ _ e))))) rfl rfl
end
end
section
open _root_.PySem _root_.PySem.W _root_.PySem.Calls _root_.PyProof.Rows _root_.PySem.Builtin _root_.PySem.Builtin.ObjectAttr _root_.PySem.Builtin.List
set_option linter.unusedVariables false
set_option linter.unusedSimpArgs false
set_option linter.deprecated false
set_option maxRecDepth 100000
theorem cls_F (P : Params) : ∃ cd, clsIn (kk P) 101 = some cd ∧ cd.mro = [.ref 101, .type "object"] ∧ cd.hasDict = true := ⟨_, by with_unfolding_all rfl, by kernel_rfl, by kernel_rfl⟩
theorem sa_F (P : Params) : findIn (kk P) (.ref 101) "__setattr__" = some (some (.builtin "object.__setattr__")) := by kernel_rfl
theorem refuse_F (self : Value) : refuseLoop self "__setattr__" [.ref 101, .type "object"] = pure () := refuse_only self (l := [.ref 101, .type "object"]) rfl
noncomputable abbrev en (P : Params) (n : Str) (t : Tok) (v : Value) : DictEntry := ⟨PyData.keyHash P n, .str n t, v⟩
section
variable (P : Params) (a b c' d e f t : Tok) (va vb vc vd ve v : Value)
noncomputable abbrev L1 : List DictEntry := [en P "_maxlen" a va]
noncomputable abbrev L2 : List DictEntry := [en P "_maxlen" a va, en P "_continuation_ws" b vb]
noncomputable abbrev L3 : List DictEntry := [en P "_maxlen" a va, en P "_continuation_ws" b vb, en P "_continuation_ws_len" c' vc]
noncomputable abbrev L4 : List DictEntry := [en P "_maxlen" a va, en P "_continuation_ws" b vb, en P "_continuation_ws_len" c' vc, en P "_splitchars" d vd]
noncomputable abbrev L5 : List DictEntry := [en P "_maxlen" a va, en P "_continuation_ws" b vb, en P "_continuation_ws_len" c' vc, en P "_splitchars" d vd, en P "_lines" e ve]
noncomputable abbrev L6 : List DictEntry := [en P "_maxlen" a va, en P "_continuation_ws" b vb, en P "_continuation_ws_len" c' vc, en P "_splitchars" d vd, en P "_lines" e ve, en P "_current_line" f v]
theorem pu1 : Obj.putName "_maxlen" (PyData.keyHash P "_maxlen") (.str "_maxlen" a) va emptyDict = dictOf (L1 P a va) 1 := by with_unfolding_all rfl
theorem pu2 : Obj.putName "_continuation_ws" (PyData.keyHash P "_continuation_ws") (.str "_continuation_ws" b) vb (dictOf (L1 P a va) 1) = dictOf (L2 P a b va vb) 2 := by with_unfolding_all rfl
theorem pu3 : Obj.putName "_continuation_ws_len" (PyData.keyHash P "_continuation_ws_len") (.str "_continuation_ws_len" c') vc (dictOf (L2 P a b va vb) 2) = dictOf (L3 P a b c' va vb vc) 3 := by with_unfolding_all rfl
theorem pu4 : Obj.putName "_splitchars" (PyData.keyHash P "_splitchars") (.str "_splitchars" d) vd (dictOf (L3 P a b c' va vb vc) 3) = dictOf (L4 P a b c' d va vb vc vd) 4 := by with_unfolding_all rfl
theorem pu5 : Obj.putName "_lines" (PyData.keyHash P "_lines") (.str "_lines" e) ve (dictOf (L4 P a b c' d va vb vc vd) 4) = dictOf (L5 P a b c' d e va vb vc vd ve) 5 := by with_unfolding_all rfl
theorem pu6 : Obj.putName "_current_line" (PyData.keyHash P "_current_line") (.str "_current_line" f) v (dictOf (L5 P a b c' d e va vb vc vd ve) 5) = dictOf (L6 P a b c' d e f va vb vc vd ve v) 6 := by with_unfolding_all rfl
theorem tk1 : takerIn (kk P) 101 "_maxlen" = some none := by kernel_rfl
theorem tk2 : takerIn (kk P) 101 "_continuation_ws" = some none := by kernel_rfl
theorem tk3 : takerIn (kk P) 101 "_continuation_ws_len" = some none := by kernel_rfl
theorem tk4 : takerIn (kk P) 101 "_splitchars" = some none := by kernel_rfl
theorem tk5 : takerIn (kk P) 101 "_lines" = some none := by kernel_rfl
theorem tk6 : takerIn (kk P) 101 "_current_line" = some none := by kernel_rfl
theorem lk2 : (lookIn "_continuation_ws" (dictOf (L1 P a va) 1)).isSome = true := by with_unfolding_all rfl
theorem lk3 : (lookIn "_continuation_ws_len" (dictOf (L2 P a b va vb) 2)).isSome = true := by with_unfolding_all rfl
theorem lk4 : (lookIn "_splitchars" (dictOf (L3 P a b c' va vb vc) 3)).isSome = true := by with_unfolding_all rfl
theorem lk5 : (lookIn "_lines" (dictOf (L4 P a b c' d va vb vc vd) 4)).isSome = true := by with_unfolding_all rfl
theorem lk6 : (lookIn "_current_line" (dictOf (L5 P a b c' d e va vb vc vd ve) 5)).isSome = true := by with_unfolding_all rfl
end
/-- a frame that fills the dict at dx of the object at x -/
structure Fi (c : Cx) (f : Fm) (m : Str → Option Value) (x dx : Addr) (s₀ : Shared) (h : Heap) (od : Obj) : Prop where
  kind : f.sc.kind = .function
  room : Room f.A f.d
  ns : h.Ns f.L m
  base : Ext c.h₀ h
  inst : h.get? x = some (instObj 101 dx)
  dict : h.get? dx = some od
  pv : ∀ b ob, b ≠ dx → s₀.heap.get? b = some ob → h.get? b = some ob
  lt : dx < f.L
  hdx : c.h₀.get? dx = none
  dx0 : ∃ ob, s₀.heap.get? dx = some ob
section
variable {c : Cx} {f : Fm} {m : Str → Option Value} {x dx : Addr} {s₀ : Shared} {h : Heap} {g : Array GenState} {os : OsState} {tk : Nat} {dr : Drawn} {E : Value → Shared → Prop} {od : Obj}
theorem Fi.ext {h' : Heap} (F : Fi c f m x dx s₀ h od) (e : Ext h h') : Fi c f m x dx s₀ h' od :=
  ⟨F.kind, F.room, F.ns.keeps e, F.base.trans e, e _ _ F.inst, e _ _ F.dict, fun b ob hb q => e _ _ (F.pv b ob hb q), F.lt, F.hdx, F.dx0⟩
theorem Fi.kx (H : Here c) (F : Fi c f m x dx s₀ h od) : (kk c.w.params).In h := by
  have := H.ok.k.keeps F.base
  rwa [H.K] at this
theorem Fi.nm {y : String} {p : Pos} {v : Value} {Q : Value → Shared → Prop} (F : Fi c f m x dx s₀ h od) (hl : f.sc.names.lookup (Str.ofString y) = some .local) (hx : m (Str.ofString y) = some v) (q : Q v ⟨h, g, dr, tk, os⟩)
    (hd : (Str.ofString y == ("__debug__" : Str)) = false := by decide +kernel) : wpAny c.M f.A (eval (.Name (Str.ofString y) p) f.env) Q E ⟨h, g, dr, tk, os⟩ :=
  wpAny_Name (wpAny_loadName_local (env := f.env) F.kind hl F.ns hx q) hd
/-- self.name = value -/
theorem Fi.set {name : Str} {value : Expr} {p1 p2 p3 : Pos} {Q : Flow → Shared → Prop} {hz : Heap} {oz : Obj} (Fz : Fi c f m x dx s₀ hz oz) (H : Here c)
    (hl : f.sc.names.lookup (Str.ofString "self") = some .local) (hx : m (Str.ofString "self") = some (.ref x)) (ht : takerIn (kk c.w.params) 101 name = some none)
    (hv : wpAny c.M f.A (eval value f.env) (fun v' s' => ∃ (h' : Heap) (g' : Array GenState) (dr' : Drawn) (tk' : Nat) (os' : OsState), s' = ⟨h', g', dr', tk', os'⟩ ∧ ∃ (od : Obj) (es : Tok → List DictEntry) (n : Nat), Fi c f m x dx s₀ h' od ∧ (lookIn name od).isSome = true ∧
      (∀ t, Obj.putName name (PyData.keyHash c.w.params name) (.str name t) v' od = dictOf (es t) n) ∧ (∀ t, (es t).length ≤ 1000) ∧ ∀ t h'' tk'', Fi c f m x dx s₀ h'' (dictOf (es t) n) → Heap.SameBut dx h' h'' → Q .next ⟨h'', g', dr', tk'', os'⟩) E ⟨h, g, dr, tk, os⟩)
    (hs : swapsWith value (some (.Attribute (.Name (Str.ofString "self") p1) name p2)) p3.line f.env = pure false := by rfl) :
    wpAny c.M f.A (exec (.Assign [.Attribute (.Name (Str.ofString "self") p1) name p2] value p3) f.env) Q E ⟨h, g, dr, tk, os⟩ := by
  refine plainObj_wpAny_Assign_Attribute (wpAny_mono hv (fun v' s' z => ?_) fun _ _ z => z) hs
  obtain ⟨h', g', dr', tk', os', rfl, od, es, n, F, hlk, hput, hlen, k⟩ := z
  obtain ⟨cd, hcd, hmro, hdict⟩ := cls_F c.w.params
  refine F.nm hl hx ?_
  refine set_inst (K := kk c.w.params) (s := ⟨h', g', dr', tk', os'⟩) (od := od) (od' := dictOf (es (tk' + 1)) n) (es := es (tk' + 1)) (n := n) (F.kx H) ⟨F.inst, rfl, rfl, F.dict⟩ rfl hcd (by rw [hmro]; exact refuse_F _) (by rw [hmro]; decide) (sa_F _) ht hdict hlk (hput _) rfl (hlen _) fun h₂ hs₂ e₂ => ?_
  have y₂ := Heap.SameBut.extBut hs₂
  have hne : x ≠ dx := by
    rintro rfl
    have := F.inst
    have h2 := e₂
    have h3 := hput tk'
    rw [F.dict] at this
    cases this
    cases hlk
  exact k _ _ _ ⟨F.kind, F.room, F.ns.at' fun ob e => y₂ _ _ (Nat.ne_of_gt F.lt) e, fun b ob e => y₂ _ _ (fun q => by rw [q, F.hdx] at e; cases e) (F.base _ _ e), y₂ _ _ hne F.inst, e₂, fun b ob hb e => y₂ _ _ hb (F.pv b ob hb e), F.lt, F.hdx, F.dx0⟩ hs₂
end
end
section
open _root_.PySem _root_.PySem.W _root_.PySem.Calls _root_.PyProof.Rows _root_.PySem.Builtin _root_.PySem.Builtin.ObjectAttr _root_.PySem.Builtin.List
set_option linter.unusedVariables false
set_option linter.unusedSimpArgs false
set_option linter.deprecated false
set_option maxRecDepth 100000
theorem Room.make {A : Around} {n d : Nat} {C : Addr} {rest : List Value} (r : Room A d) (h : n + 1 ≤ d) : Room (A.under (.builtin "type.__call__" ⟨.ref C :: rest, []⟩)) n := by
  have hw : (Code.builtin "type.__call__" ⟨.ref C :: rest, []⟩).weight = 1 := by kernel_rfl
  have hu : (Code.builtin "type.__call__" ⟨.ref C :: rest, []⟩).cUnits = 1 := by kernel_rfl
  refine ⟨r.handled, ?_, ?_⟩
  · have := r.depth; show A.depth + (Code.builtin "type.__call__" ⟨.ref C :: rest, []⟩).weight + 4 * n < _; rw [hw]; omega
  · have := r.units; show A.units + (Code.builtin "type.__call__" ⟨.ref C :: rest, []⟩).cUnits + 40 * n < _; rw [hu]; omega
theorem initA_find (P : Params) : findIn (kk P) (.ref 185) "__init__" = some (some (.ref 122)) := by kernel_rfl
theorem initA_ty (P : Params) : typeIn (kk P) (.ref 122) = some (.type "function") := by kernel_rfl
theorem initF_find (P : Params) : findIn (kk P) (.ref 101) "__init__" = some (some (.ref 42)) := by kernel_rfl
theorem initF_ty (P : Params) : typeIn (kk P) (.ref 42) = some (.type "function") := by kernel_rfl
theorem ns_A (P : Params) : nsIn (kk P) mainGlobals (Str.ofString "_Accumulator") = some (some (.ref 185)) := by kernel_rfl
theorem ns_F (P : Params) : nsIn (kk P) mainGlobals (Str.ofString "_ValueFormatter") = some (some (.ref 101)) := by kernel_rfl
theorem keep_A (P : Params) : keepIn (kk P) (.ref 185) = true := by kernel_rfl
theorem keep_F (P : Params) : keepIn (kk P) (.ref 101) = true := by kernel_rfl
theorem makes_F (P : Params) : makesIn (kk P) 101 = true := by kernel_rfl
section
variable {c : Cx} {s : Shared}
set_option maxHeartbeats 800000 in
/-- _ValueFormatter.__init__(self, 0, 1, ' ', '^|') -/
theorem initF_spec (H : HereP c) {A : Around} {R : Result → Shared → Prop} {x dx : Addr} {t0 t1 t2 t3 : Tok} (hr : Room A 4) (b : Ext c.h₀ s.heap) (ex : s.heap.get? x = some (instObj 101 dx)) (ed : s.heap.get? dx = some emptyDict)
    (hdx : c.h₀.get? dx = none)
    (k : ∀ s' LI AC Ad, St c.w.params s'.heap ⟨x, dx, LI, AC, Ad⟩ [] [] → (∀ b ob, b ≠ dx → s.heap.get? b = some ob → s'.heap.get? b = some ob) → s.heap.get? LI = none → s.heap.get? AC = none → s.heap.get? Ad = none → s'.gens = s.gens → s'.os = s.os → R (.ok (.ret .none)) s') :
    codeAny c.M A (.call (.ref 42) ⟨[.ref x, .int 0 t0, .int 1 t1, .str " " t2, .str "^|" t3], []⟩) R s := by
  refine' def_intro (n := 3) H.H.ok (xs := ["self", "headerlen", "maxlen", "continuation_ws", "splitchars"]) (vs := [.ref x, .int 0 t0, .int 1 t1, .str " " t2, .str "^|" t3]) ?ho ?hcd ?hbind ?hl ?hcell hr b ?h ?hco ?hgen ?hk
  case ho => rw [H.H.K]; with_unfolding_all rfl
  case hcd => rw [H.H.K]; kernel_rfl
  case hbind => exact BindsTo.of_eq (by with_unfolding_all rfl)
  case hl => decide
  case hcell => decide
  case hco => rfl
  case hgen => rfl
  case hk => rfl
  case h =>
    intro f h₁ tk E hf hroom hns x₁
    have hL : f.L = s.heap.objs.size := by rw [hf]
    rw [hf] at hns hroom ⊢
    have hdx' : dx < s.heap.objs.size := Heap.lt_size ed
    have hxlt : x < s.heap.objs.size := Heap.lt_size ex
    have F : Fi c _ _ x dx s h₁ emptyDict := ⟨rfl, hroom, hns, b.trans x₁, x₁ _ _ ex, x₁ _ _ ed, fun b ob _ e => x₁ _ _ e, hdx', hdx, ⟨_, ed⟩⟩
    refine wpAny_execs_cons (Fi.set F H.H rfl rfl (tk1 _) (F.nm rfl rfl ⟨_, _, _, _, _, rfl, _, fun t => L1 _ t _, 1, F, by rfl, fun t => pu1 _ _ _, fun t => by simp, fun a h₁ tk₁ F hs => ?_⟩))
    refine wpAny_execs_cons (Fi.set F H.H rfl rfl (tk2 _) (F.nm rfl rfl ⟨_, _, _, _, _, rfl, _, fun t => L2 _ _ t _ _, 2, F, lk2 _ _ _, fun t => pu2 _ _ _ _ _, fun t => by simp, fun b' h₁ tk₁ F hs => ?_⟩))
    refine wpAny_execs_cons (Fi.set F H.H rfl rfl (tk3 _) (len_name H.H (u := ⟨h₁, _, _, _, _⟩) rfl rfl rfl F.base F.ns rfl rfl rfl (by decide +kernel) (by decide +kernel) fun t' tk => ⟨_, _, _, _, _, rfl, _, fun t => L3 _ _ _ t _ _ _, 3, F, lk3 _ _ _ _ _, fun t => pu3 _ _ _ _ _ _ _, fun t => by simp, fun c' h₁ tk₁ F hs => ?_⟩))
    refine wpAny_execs_cons (Fi.set F H.H rfl rfl (tk4 _) (F.nm rfl rfl ⟨_, _, _, _, _, rfl, _, fun t => L4 _ _ _ _ t _ _ _ _, 4, F, lk4 _ _ _ _ _ _ _, fun t => pu4 _ _ _ _ _ _ _ _ _, fun t => by simp, fun d' h₂ tk₁ F hs => ?_⟩))
    have xl := Ext.push h₂ { cls := .type "list", data := .seq #[] }
    have Fl := F.ext xl
    have eLI : (h₂.push { cls := .type "list", data := .seq #[] }).get? h₂.objs.size = some { cls := .type "list", data := .seq #[] } := Heap.get?_push_size _ rfl
    have hLIx : x ≠ h₂.objs.size := Nat.ne_of_lt (Heap.lt_size F.inst)
    have hLId : dx ≠ h₂.objs.size := Nat.ne_of_lt (Heap.lt_size F.dict)
    refine wpAny_execs_cons (Fi.set F H.H rfl rfl (tk5 _) (wpAny_List (wpAny_items_nil ⟨by rw [sizeLine_eq]; simp, ⟨_, _, _, _, _, rfl, _, fun t => L5 _ _ _ _ _ t _ _ _ _ _, 5, Fl, lk5 _ _ _ _ _ _ _ _ _, fun t => pu5 _ _ _ _ _ _ _ _ _ _ _, fun t => by simp, fun e' h₃ tk₁ F₃ hs₃ => ?_⟩⟩)))
    have eLI₃ := (Heap.SameBut.extBut hs₃) _ _ (Ne.symm hLId) eLI
    have X₃ := F₃.kx H.H
    refine wpAny_execs_cons (Fi.set F₃ H.H rfl rfl (tk6 _) (Call_ (Name_function_global rfl (by kernel_rfl) (loadGlobal_global (H.H.ok.g.keeps F₃.base) (mg_of H.H.ok.k H.H.ok.g (by rw [H.H.K]; exact ns_A _)) ?_) (by decide +kernel))))
    refine callWith_K X₃ (keep_A _) (wpAny_items_cons (F₃.nm rfl rfl (wpAny_items_nil ⟨X₃, ?_⟩)) rfl)
    refine wpAny_call (make_A X₃ (looks_findIn X₃ (initA_find _)) (fun self => bind_fn X₃ self (initA_ty _)) ?_)
    have xp : Ext h₃ ((h₃.push emptyDict).push (accObj 185 h₃.objs.size)) := (Ext.push _ _).trans (Ext.push _ _)
    have hn₀ : c.h₀.get? h₃.objs.size = none := F₃.base.none (fresh_size _)
    have hn₁ : c.h₀.get? (h₃.objs.size + 1) = none := F₃.base.none (Heap.get?_none_of_le (Nat.le_succ _))
    refine initA_spec H (s := ⟨(h₃.push emptyDict).push (accObj 185 h₃.objs.size), _, _, _, _⟩) (Room.make hroom (by decide)) (F₃.base.trans xp) (by heap_get) (Heap.get?_push_of_some _ (Heap.get?_push_size _ rfl)) hn₁ hn₀ fun s' n t u kk e1 e2 kp hg ho => ⟨rfl, ?_⟩
    have xs : Ext h₃ s'.heap := fun a ob e => kp _ _ (Nat.ne_of_lt (Nat.lt_succ_of_lt (Heap.lt_size e))) (Nat.ne_of_lt (Heap.lt_size e)) (xp _ _ e)
    have F₄ := F₃.ext xs
    refine ⟨s'.heap, s'.gens, s'.drawn, s'.toks, s'.os, rfl, _, fun t => L6 _ _ _ _ _ _ t _ _ _ _ _ _, 6, F₄, lk6 _ _ _ _ _ _ _ _ _ _ _, fun t => pu6 _ _ _ _ _ _ _ _ _ _ _ _ _, fun t => by simp, fun f' h₅ tk₅ F₅ hs₅ => ?_⟩
    refine wpAny_execs_nil ?_
    have y₅ := Heap.SameBut.extBut hs₅
    have hdx₃ : dx < h₃.objs.size := Heap.lt_size F₃.dict
    refine k ⟨h₅, s'.gens, s'.drawn, tk₅, s'.os⟩ h₂.objs.size (h₃.objs.size + 1) h₃.objs.size ⟨F₅.inst, ?_, ?_, ?_⟩ F₅.pv ?_ ?_ ?_ hg ho
    · refine ⟨fun i => [a, b', c', d', e', f'].getD i 0, fun i => [t1, t2, t', t3].getD i 0, 6, ?_⟩
      have hlen : (((" " : Str).length : Nat) : Int) = 1 := by decide +kernel
      have := F₅.dict
      rw [hlen] at this
      exact this
    · exact ⟨#[], n, t, u, kk, y₅ _ _ (Nat.ne_of_gt (Nat.lt_succ_of_lt hdx₃)) e1, trivial, y₅ _ _ (Nat.ne_of_gt hdx₃) e2⟩
    · exact ⟨#[], ⟨0, y₅ _ _ (Ne.symm hLId) (xs _ _ eLI₃)⟩, trivial⟩
    · cases e : s.heap.get? h₂.objs.size with
      | none => rfl
      | some ob => exact absurd (Heap.lt_size (F.pv _ _ (Ne.symm hLId) e)) (Nat.lt_irrefl _)
    · cases e : s.heap.get? (h₃.objs.size + 1) with
      | none => rfl
      | some ob => exact absurd (Heap.lt_size (F₃.pv _ _ (Nat.ne_of_gt (Nat.lt_succ_of_lt hdx₃)) e)) (Nat.not_lt.mpr (Nat.le_succ _))
    · cases e : s.heap.get? h₃.objs.size with
      | none => rfl
      | some ob => exact absurd (Heap.lt_size (F₃.pv _ _ (Nat.ne_of_gt hdx₃) e)) (Nat.lt_irrefl _)
end
end
section
open _root_.PySem _root_.PySem.W _root_.PySem.Calls _root_.PyProof.Rows _root_.PySem.Builtin _root_.PySem.Builtin.ObjectAttr _root_.PySem.Builtin.List _root_.PySem.Builtin.Str
set_option linter.unusedVariables false
set_option linter.unusedSimpArgs false
set_option linter.deprecated false
set_option maxRecDepth 100000
section
variable {c : Cx} {f : Fm} {o : Ob} {m : Str → Option Value} {ls : List (List Nat)} {cs : List Nat} {s₀ : Shared} {s : Shared} {E : Value → Shared → Prop} {h h' : Heap} {g : Array GenState} {os : OsState}
/-- a loop that turns the objects -/
theorem Cf.forS {x : String} {px : Pos} {body orelse : List Stmt} {I : Addr} {items : List V} {P : Nat → Value → Prop} {St' : Nat → Heap → Prop} {Qs : Flow → Shared → Prop} (Inv : Nat → (Str → Option Value) → List (List Nat) → List Nat → Prop)
    (C : Cf c f o m ls cs s₀ s.heap s.gens s.os) (W : It c I none items s.heap P St') (hI : s₀.heap.get? I = none) (hIL : I ≠ f.L) (hl : f.sc.names.lookup (Str.ofString x) = some .local) (h0 : Inv 0 m ls cs)
    (turn : ∀ i v w m₁ ls cs s₀' s₁ E', items[i]? = some v → ER s.heap v w → Inv i m₁ ls cs → Cf c f o (fun y => if y = Str.ofString x then some w else m₁ y) ls cs s₀' s₁.heap s₁.gens s₁.os →
      ∀ Q' : Flow → Shared → Prop, (∀ s₂ m₂ ls cs, Cf c f o m₂ ls cs s₀' s₂.heap s₂.gens s₂.os → Inv (i + 1) m₂ ls cs → Q' .next s₂) → wpAny c.M f.A (execs body f.env) Q' E' s₁)
    (last : ∀ m₁ ls cs s₁ E', Inv items.length m₁ ls cs → Cf c f o m₁ ls cs s₀ s₁.heap s₁.gens s₁.os → wpAny c.M f.A (execs orelse f.env) Qs E' s₁) :
    codeAny c.M f.A (.forLoop (.Name (Str.ofString x) px) (.ref I) body orelse f.env) (fun r s' => match r with | .ok g => Qs g s' | .error e => cameBackBy c.M f.A f.env E e s') s := by
  have WW := W.walks f.A C.room.handled
  have hFI := W.field _ _ W.start
  have hIm : I ∉ o.mut := by
    obtain ⟨Sf, ⟨k', v, n, fd⟩, acc, li⟩ := id C.st
    obtain ⟨its, n0, t', u', k0, e1, e2, e3⟩ := id acc
    obtain ⟨its2, ⟨n2, e4⟩, _⟩ := id li
    obtain ⟨ps1, p1, q1⟩ := C.w.t1
    obtain ⟨ps2, p2, q2⟩ := C.w.t2
    simp only [Ob.mut, List.mem_cons, List.not_mem_nil, or_false, not_or]
    exact ⟨Ne.symm (fields_ne hFI e4 (by simp)), Ne.symm (fields_ne hFI e1 (by simp)), Ne.symm (fields_ne hFI e3 (by simp)), Ne.symm (fields_ne hFI p1 (by simp)), Ne.symm (fields_ne hFI p2 (by simp))⟩
  refine codeAny_forLoop_any (fun n s' => ∃ i m₁ ls cs, n = items.length - i ∧ i ≤ items.length ∧ Inv i m₁ ls cs ∧ Cf c f o m₁ ls cs s₀ s'.heap s'.gens s'.os ∧ St' i s'.heap) ?_ items.length ⟨0, m, ls, cs, rfl, Nat.zero_le _, h0, C, W.start⟩
  rintro n s₁ ⟨i, m₁, ls, cs, rfl, hi, hinv, C₁, st⟩
  have hI1 := W.field _ _ st
  by_cases hlt : i < items.length
  · refine WW.item i s₁ _ _ hlt st fun v h' tk hp st' hk => ?_
    have hs : Heap.ExtBut I s₁.heap h' := fun b o hb e => hk b o (by simpa using hb) e
    have C₂ := C₁.turn hs hI1 hI
    have hI' := W.field _ _ st'
    obtain ⟨vv, hvi, hev⟩ := W.item i v hlt hp
    obtain ⟨oI, hoI⟩ : ∃ o, h'.get? I = some o := by obtain ⟨o, _, _, ho, _⟩ := hI'; exact ⟨o, ho⟩
    refine letGo_ok hI' ?_
    refine wpAny_assign_Name (Cf.store (s := { s₁ with heap := h', toks := tk }) C₂.rebase hl fun h₃ C₃ hs₃ => ?_)
    refine turn i vv v m₁ ls cs _ { s₁ with heap := h₃, toks := tk + 1 } _ hvi hev hinv C₃ _ fun s₄ m₂ ls cs C₄ hfl => ?_
    have C₅ := C₂.unbase C₄
    have kI : s₄.heap.get? I = some oI := C₄.pv I oI hIm (hideAll_get _ hoI fun hm => hIL (List.mem_singleton.mp hm))
    have st'' : St' (i + 1) s₄.heap := WW.frame _ _ _ st' fun b hb ob e => by
      have hb : b = I := by simpa using hb
      subst hb
      rw [hoI] at e; cases e; exact kI
    exact ⟨items.length - (i + 1), by omega, i + 1, m₂, ls, cs, rfl, hlt, hfl, C₅, st''⟩
  · have hi' : i = items.length := by omega
    subst hi'
    refine WW.done s₁ _ _ st fun h' tk hk => ?_
    have hs : Heap.ExtBut I s₁.heap h' := fun b o hb e => hk b o (by simpa using hb) e
    exact last m₁ ls cs { s₁ with heap := h', toks := tk } _ hinv (C₁.turn hs hI1 hI)
end
noncomputable abbrev Pc := List (List Nat) × List Nat
noncomputable def Pc.ok (n : Nat) (p : Pc) : Prop := p.1.length ≤ n ∧ p.2.length ≤ n ∧ (∀ x ∈ p.2.dropLast, ¬ splits x) ∧ (0 < n → p.2 ≠ []) ∧ (p.1.map List.length).sum + p.2.length = n ∧ p.1.length ≤ n
theorem chunk_ok {n : Nat} {p : Pc} (h : Pc.ok n p) (ch : Nat) : Pc.ok (n + 1) (chunk p ch) := by
  obtain ⟨h1, h2, h3, h4, h5, h6⟩ := h
  unfold chunk
  split
  · refine ⟨by simp; omega, by simp, by simp, by simp, ?_, by simp; omega⟩
    simp
    omega
  · rename_i hn
    refine ⟨by simp; omega, by simp; omega, ?_, by simp, by simp; omega, by simp; omega⟩
    intro x hx
    simp at hx
    rcases List.eq_nil_or_concat p.2 with e | ⟨d, q, e⟩
    · rw [e] at hx; simp at hx
    · rw [e] at hx h3 hn
      simp at hx hn h3
      rcases hx with hx | rfl
      · exact not_or.mpr (h3 x hx)
      · exact not_or.mpr hn
noncomputable def chunks (t : List Nat) : Pc := t.foldl chunk ([], [])
theorem chunks_ok : ∀ (t : List Nat) (n : Nat) (p : Pc), Pc.ok n p → Pc.ok (n + t.length) (t.foldl chunk p)
  | [], n, p, h => h
  | x :: t, n, p, h => by
    have := chunks_ok t (n + 1) (chunk p x) (chunk_ok h x)
    rw [List.length_cons, List.foldl_cons]
    rwa [show n + (t.length + 1) = n + 1 + t.length by omega]
theorem chunks_mem {P : Nat → Prop} : ∀ (t : List Nat) (p : Pc), (∀ x ∈ t, P x) → (∀ x ∈ p.2, P x) → ∀ x ∈ (t.foldl chunk p).2, P x
  | [], p, _, h => h
  | y :: t, p, ht, h => by
    rw [List.foldl_cons]
    refine chunks_mem t _ (fun x hx => ht x (.tail _ hx)) fun x hx => ?_
    unfold chunk at hx
    split at hx
    · simp at hx; subst hx; exact ht _ (.head _)
    · rcases List.mem_append.mp hx with hx | hx
      · exact h x hx
      · rw [List.mem_singleton.mp hx]; exact ht _ (.head _)
noncomputable def rowsOf (t : List Nat) : List (List Nat) := (chunks t).1 ++ [(chunks t).2]
theorem chunks_mem1 {P : Nat → Prop} : ∀ (t : List Nat) (p : Pc), (∀ x ∈ t, P x) → (∀ x ∈ p.2, P x) → (∀ l ∈ p.1, ∀ x ∈ l, P x) → ∀ l ∈ (t.foldl chunk p).1, ∀ x ∈ l, P x
  | [], p, _, _, h => h
  | y :: t, p, ht, h2, h => by
    rw [List.foldl_cons]
    have h2' := chunks_mem [y] p (fun x hx => ht x (by rw [List.mem_singleton.mp hx]; exact .head _)) h2
    refine chunks_mem1 t _ (fun x hx => ht x (.tail _ hx)) h2' fun l hl => ?_
    unfold chunk at hl
    split at hl
    · rcases List.mem_append.mp hl with hl | hl
      · exact h l hl
      · rw [List.mem_singleton.mp hl]; exact h2
    · exact h l hl
theorem rows_mem {P : Nat → Prop} {t : List Nat} (h : ∀ x ∈ t, P x) : ∀ l ∈ rowsOf t, ∀ x ∈ l, P x := fun l hl => by
  rcases List.mem_append.mp hl with hl | hl
  · exact chunks_mem1 t ([], []) h (by simp) (by simp) l hl
  · rw [List.mem_singleton.mp hl]; exact chunks_mem t ([], []) h (by simp)
theorem cut_inj {c : Nat} : ∀ {l1 l2 r1 r2 : List Nat}, c ∉ l1 → c ∉ l2 → l1 ++ c :: r1 = l2 ++ c :: r2 → l1 = l2 ∧ r1 = r2
  | [], [], _, _, _, _, e => by simpa using e
  | [], b :: l2, _, _, _, h2, e => by simp at e; exact absurd e.1 (fun q => h2 (by simp [q]))
  | a :: l1, [], _, _, h1, _, e => by simp at e; exact absurd e.1 (fun q => h1 (by simp [q]))
  | a :: l1, b :: l2, r1, r2, h1, h2, e => by
    simp at e h1 h2
    obtain ⟨e1, e2⟩ := cut_inj (l1 := l1) (l2 := l2) h1.2 h2.2 e.2
    exact ⟨by rw [e.1, e1], e2⟩
theorem join_two (c : Nat) (x y : Str) (r : List Str) : (Str.join ⟨#[c]⟩ (x :: y :: r)).cps.toList = x.cps.toList ++ c :: (Str.join ⟨#[c]⟩ (y :: r)).cps.toList := by
  show ((x ++ (⟨#[c]⟩ : Str)) ++ Str.join ⟨#[c]⟩ (y :: r)).cps.toList = _
  show ((x.cps ++ #[c]) ++ (Str.join ⟨#[c]⟩ (y :: r)).cps).toList = _
  simp
theorem join_inj (c : Nat) : ∀ A B : List Str, A ≠ [] → B ≠ [] → (∀ p ∈ A, c ∉ p.cps.toList) → (∀ p ∈ B, c ∉ p.cps.toList) → Str.join ⟨#[c]⟩ A = Str.join ⟨#[c]⟩ B → A = B
  | [], _, h, _, _, _, _ => absurd rfl h
  | _ :: _, [], _, h, _, _, _ => absurd rfl h
  | [x], [y], _, _, _, _, e => by rw [show x = y from e]
  | [x], y :: z :: r, _, _, h1, h2, e => by
    have e' : x.cps.toList = y.cps.toList ++ c :: (Str.join ⟨#[c]⟩ (z :: r)).cps.toList := by rw [← join_two]; exact congrArg (fun s : Str => s.cps.toList) e
    exact absurd (by rw [e']; simp : c ∈ x.cps.toList) (h1 x (by simp))
  | x :: z :: r, [y], _, _, h1, h2, e => by
    have e' : x.cps.toList ++ c :: (Str.join ⟨#[c]⟩ (z :: r)).cps.toList = y.cps.toList := by rw [← join_two]; exact congrArg (fun s : Str => s.cps.toList) e
    exact absurd (by rw [← e']; simp : c ∈ y.cps.toList) (h2 y (by simp))
  | x :: z :: r, y :: w :: q, _, _, h1, h2, e => by
    have e' : x.cps.toList ++ c :: (Str.join ⟨#[c]⟩ (z :: r)).cps.toList = y.cps.toList ++ c :: (Str.join ⟨#[c]⟩ (w :: q)).cps.toList := by rw [← join_two, ← join_two]; exact congrArg (fun s : Str => s.cps.toList) e
    obtain ⟨e1, e2⟩ := cut_inj (h1 x (by simp)) (h2 y (by simp)) e'
    rw [str_of_list e1, join_inj c (z :: r) (w :: q) (by simp) (by simp) (fun p hp => h1 p (.tail _ hp)) (fun p hp => h2 p (.tail _ hp)) (str_of_list e2)]
theorem split_ne (x y : Str) : Txt.split x y ≠ [] := by
  unfold Txt.split
  split
  · simp
  · split
    · simp
    · intro e
      have := length_partsBetween x (occurrences x y 0 x.length (x.length + 1)) y.length
      rw [e] at this; simp at this
theorem split_join (c : Nat) (A : List Str) (h0 : A ≠ []) (h : ∀ p ∈ A, c ∉ p.cps.toList) : Txt.split (Txt.join ⟨#[c]⟩ A) ⟨#[c]⟩ = A := by
  refine join_inj c _ _ (split_ne _ _) h0 (StrLaws.split_free _ c) h ?_
  rw [StrLaws.join_split]
  exact StrLaws.glued_eq_join _ _
theorem parts_le (x y : Str) (h : x.length ≤ 100000) : (partsBetween x (occurrences x y 0 x.length (x.length + 1)) y.length).length ≤ sizeLine := by
  have h1 := StrLaws.occ_length_le x y 0 x.length (x.length + 1)
  rw [length_partsBetween, sizeLine_eq]
  omega
theorem join_len (c : Nat) (A : List Str) : (Txt.join ⟨#[c]⟩ A).length ≤ (A.map (·.length)).sum + A.length := by
  unfold Txt.join
  rw [size_glued]
  have : (⟨#[c]⟩ : Str).length = 1 := rfl
  rw [this]; omega
end
section
open _root_.PySem _root_.PySem.W _root_.PySem.Calls _root_.PyProof.Rows _root_.PySem.Builtin _root_.PySem.Builtin.ObjectAttr _root_.PySem.Builtin.List
set_option linter.unusedVariables false
set_option linter.unusedSimpArgs false
set_option linter.deprecated false
set_option maxRecDepth 100000
theorem lit_nl : (Str.ofString "\n") = ⟨#[10]⟩ := by decide +kernel
theorem strsOf_len (l : List (List Nat)) : (strsOf l).length = l.length := by simp
theorem strsOf_sum : ∀ l : List (List Nat), ((strsOf l).map (·.length)).sum = (l.map List.length).sum
  | [] => rfl
  | a :: l => by simp only [strsOf, List.map_cons, List.sum_cons, fact_mk]; rw [← strsOf_sum l]
theorem vals_strs : ∀ {l : List (Str × Tok)} {r : List (List Nat)}, l.map (·.1) = strsOf r → All2 PR (r.map V.str) (strValues l)
  | [], [], _ => trivial
  | (x, t) :: l, y :: r, e => by
    simp only [List.map_cons, List.cons.injEq] at e
    obtain ⟨e1, e2⟩ := e
    subst e1
    exact ⟨⟨t, rfl⟩, vals_strs e2⟩
  | [], _ :: _, e => by simp at e
  | _ :: _, [], e => by simp at e
section
variable {c : Cx} {s : Shared}
set_option maxHeartbeats 1600000 in
/-- _law_rows(text) -/
theorem rows_spec (H : HereP c) {A : Around} {R : Result → Shared → Prop} {t : List Nat} {tt : Tok} (hr : Room A 9) (b : Ext c.h₀ s.heap) (T1 : ∃ ps, s.heap.get? 147 = some (tabObj ps) ∧ TabOk posL ps) (T2 : ∃ ps, s.heap.get? 154 = some (tabObj ps) ∧ TabOk posS ps) (hg : AllBare s.gens)
    (hne : t ≠ []) (hlen : t.length ≤ 800) (hch : ∀ x ∈ t, x < 1000) (hsp : ∀ x ∈ t, Unicode.isSpace x = false)
    (k : ∀ w s', VR s.heap s'.heap (.lst ((rowsOf t).map V.str)) w → (∀ b ob, b ≠ 147 → b ≠ 154 → s.heap.get? b = some ob → s'.heap.get? b = some ob) → (∃ ps, s'.heap.get? 147 = some (tabObj ps) ∧ TabOk posL ps) → (∃ ps, s'.heap.get? 154 = some (tabObj ps) ∧ TabOk posS ps) → AllBare s'.gens → s'.os = s.os → R (.ok (.ret w)) s') :
    codeAny c.M A (.call (.ref 213) ⟨[.str ⟨t.toArray⟩ tt], []⟩) R s := by
  refine' def_intro (n := 8) H.H.ok (xs := ["text"]) (vs := [.str ⟨t.toArray⟩ tt]) ?ho ?hcd ?hbind ?hl ?hcell hr b ?h ?hco ?hgen ?hk
  case ho => rw [H.H.K]; with_unfolding_all rfl
  case hcd => rw [H.H.K]; kernel_rfl
  case hbind => exact BindsTo.of_eq (by with_unfolding_all rfl)
  case hl => decide
  case hcell => decide
  case hco => rfl
  case hgen => rfl
  case hk => rfl
  case h =>
    intro f h₁ tk E hf hroom hns x₁
    rw [hf] at hns hroom ⊢
    have b₁ := b.trans x₁
    have X₁ := H.H.ok.k.keeps b₁
    rw [H.H.K] at X₁
    refine wpAny_execs_cons (wpAny_Assign_Name (Call_ (Name_function_global rfl (by kernel_rfl) (loadGlobal_global (H.H.ok.g.keeps b₁) (mg_of H.H.ok.k H.H.ok.g (by rw [H.H.K]; exact ns_F _)) ?_) (by decide +kernel))))
    refine callWith_K X₁ (keep_F _) (wpAny_items_cons (wpAny_Constant_int (wpAny_items_cons (wpAny_Constant_int (wpAny_items_cons (wpAny_Constant_str (wpAny_items_cons (wpAny_Constant_str (wpAny_items_nil ⟨X₁, ?_⟩)) rfl)) rfl)) rfl)) rfl)
    refine wpAny_call (make_core (makes_of X₁ (makes_F _)) (looks_findIn X₁ (initF_find _)) (fun self => bind_fn X₁ self (initF_ty _)) (.inl rfl) ?_)
    have xp : Ext h₁ ((h₁.push emptyDict).push (instObj 101 h₁.objs.size)) := (Ext.push _ _).trans (Ext.push _ _)
    have hn₀ : c.h₀.get? h₁.objs.size = none := b₁.none (fresh_size _)
    refine initF_spec H (s := ⟨(h₁.push emptyDict).push (instObj 101 h₁.objs.size), _, _, _, _⟩) (Room.make hroom (by decide)) (b₁.trans xp) (by heap_get) (Heap.get?_push_of_some _ (Heap.get?_push_size _ rfl)) hn₀ fun s' LI AC Ad S kp f1 f2 f3 hgs hos => ⟨rfl, ?_⟩
    obtain ⟨h₂, g₂, dr₂, tk₂, os₂⟩ := s'
    have xs : Ext h₁ h₂ := fun a ob e => kp _ _ (Nat.ne_of_lt (Heap.lt_size e)) (xp _ _ e)
    have hLlt : s.heap.objs.size < h₁.objs.size := by obtain ⟨ob, _, _, e, _⟩ := hns; exact Heap.lt_size e
    have p1 : ∃ ps, h₂.get? 147 = some (tabObj ps) ∧ TabOk posL ps := by obtain ⟨ps, e, q⟩ := T1; exact ⟨ps, xs _ _ (x₁ _ _ e), q⟩
    have p2 : ∃ ps, h₂.get? 154 = some (tabObj ps) ∧ TabOk posS ps := by obtain ⟨ps, e, q⟩ := T2; exact ⟨ps, xs _ _ (x₁ _ _ e), q⟩
    have p3 : AllBare g₂ := by rw [show g₂ = s.gens from hgs]; exact hg
    have p4 : ∀ a ∈ Ob.mut ⟨h₁.objs.size + 1, h₁.objs.size, LI, AC, Ad⟩, c.h₀.get? a = none := by
      intro a ha
      simp only [Ob.mut, List.mem_cons, List.not_mem_nil, or_false] at ha
      rcases ha with rfl | rfl | rfl | rfl | rfl
      · exact (b₁.trans xp).none f1
      · exact (b₁.trans xp).none f2
      · exact (b₁.trans xp).none f3
      · exact H.h1
      · exact H.h2
    have p5 : s.heap.objs.size ≠ Ad := by
      intro q
      obtain ⟨ob, _, _, e, _⟩ := hns
      have := xp _ _ e
      rw [show s.heap.objs.size = Ad from q, f3] at this
      cases this
    have C : Cf c _ ⟨h₁.objs.size + 1, h₁.objs.size, LI, AC, Ad⟩ _ [] [] s h₂ g₂ os₂ :=
      ⟨rfl, hroom, hns.keeps xs, S, ⟨b₁.trans xs, p1, p2, p3, p4⟩, fun a ob hb e => xs _ _ (x₁ _ _ e), hos, fresh_size _, b, p5, Nat.ne_of_lt hLlt⟩
    have g1 : s.heap.get? LI = none := (x₁.trans xp).none f1
    have g2 : s.heap.get? AC = none := (x₁.trans xp).none f2
    have g3 : s.heap.get? Ad = none := (x₁.trans xp).none f3
    refine C.st' rfl fun h₃ tk₃ C hs => ?_
    refine wpAny_execs_cons (wpAny_For (C.nm rfl (by walk_at "mk") ?_))
    refine iter_of (h₁ := h₃) (v := .str t) ⟨tt, rfl⟩ rfl fun I src P St h' x₄ hfr W hsrc => ?_
    cases src with
    | some a => cases hsrc a rfl
    | none =>
    have C' := C.ext x₄ C.w.bare rfl
    obtain ⟨hI0, hIL⟩ := C.fresh_of hfr
    refine Cf.forS (s := ⟨h', g₂, _, _, os₂⟩) (fun i m₁ ls cs => m₁ (Str.ofString "formatter") = some (.ref (h₁.objs.size + 1)) ∧ (ls, cs) = (t.take i).foldl chunk ([], [])) C' W hI0 hIL rfl ⟨by walk_at "mk", rfl⟩ ?turn ?last
    case turn =>
      rintro i v w m₁ ls cs s₀' ⟨h, g, dr, tk, os⟩ E' hi hv ⟨hm, hp⟩ C Q' k'
      obtain ⟨ch, hch', rfl⟩ : ∃ ch, t[i]? = some ch ∧ v = .str [ch] := by
        rw [List.getElem?_map] at hi
        cases e : t[i]? with
        | none => rw [e] at hi; cases hi
        | some ch => rw [e] at hi; cases hi; exact ⟨ch, rfl, rfl⟩
      obtain ⟨tc, rfl⟩ := hv
      have hok : Pc.ok i (ls, cs) := by
        rw [hp]
        have := chunks_ok (t.take i) 0 ([], []) ⟨by simp, by simp, by simp, by simp, by simp, by simp⟩
        have hil : i < t.length := (List.getElem?_eq_some_iff.mp hch').1
        rwa [Nat.zero_add, List.length_take, Nat.min_eq_left (Nat.le_of_lt hil)] at this
      have hil : i < t.length := (List.getElem?_eq_some_iff.mp hch').1
      obtain ⟨o1, o2, o3, o4, o5, o6⟩ := hok
      dsimp only at o1 o2 o3
      refine wpAny_execs_cons (wpAny_Expr_any (MethodCall_ (C.nm rfl (by walk_at "mk") (C.mF H.H (mF_append _) (fun _ _ _ => sh_append _ _ _ _ _ _) (callWith_fn (P := c.w.params) (mF_append _).2.2 ?_)))))
      refine wpAny_items_cons (wpAny_Constant_str (wpAny_items_cons (C.nm rfl (by walk_at "mk") (wpAny_items_nil ⟨C.kx H.H, ?_⟩)) rfl)) rfl
      rw [show (("" : String) : Str) = ⟨#[]⟩ from ofString_empty]
      refine Cf.cl (append_spec H 3 _ _ ch (by omega) (by omega) o3) (Nat.le_refl _) C trivial ?_
      rintro _ ⟨h, g, dr, tk, os⟩ ls' cs' ⟨rfl, hp'⟩ C -
      refine wpAny_execs_nil (k' _ _ _ _ C ⟨by walk_at "mk", ?_⟩)
      rw [List.take_succ, hch']
      simp only [Option.toList_some, List.foldl_append, List.foldl_cons, List.foldl_nil]
      rw [← hp]; exact hp'
    case last =>
      rintro m₁ ls cs ⟨h, g, dr, tk, os⟩ E' ⟨hm, hp⟩ C
      have hp2 : (ls, cs) = chunks t := by rw [hp]; unfold chunks; congr 1; exact List.take_of_length_le (by simp)
      have hok : Pc.ok t.length (ls, cs) := by
        rw [hp2]
        have := chunks_ok t 0 ([], []) ⟨by simp, by simp, by simp, by simp, by simp, by simp⟩
        rwa [Nat.zero_add] at this
      obtain ⟨o1, o2, o3, o4, o5, o6⟩ := hok
      dsimp only at o1 o2 o3 o4 o5
      have hcs : cs ≠ [] := o4 (List.length_pos_iff.mpr hne)
      obtain ⟨d, q, rfl⟩ : ∃ d q, cs = d ++ [q] := ⟨cs.dropLast, cs.getLast hcs, (List.dropLast_concat_getLast hcs).symm⟩
      have hrows : rowsOf t = ls ++ [d ++ [q]] := by unfold rowsOf; rw [← hp2]
      have hmem : ∀ {P : Nat → Prop}, (∀ x ∈ t, P x) → ∀ x ∈ d ++ [q], P x := fun {P} hP x hx => by
        have e2 : (chunks t).2 = d ++ [q] := by rw [← hp2]
        exact chunks_mem t ([], []) hP (by simp) x (by rw [← e2] at hx; exact hx)
      have hsum : ((ls ++ [d ++ [q]]).map List.length).sum = t.length := by
        rw [List.map_append, List.sum_append]; simpa using o5
      have hjl := join_len 10 (strsOf (rowsOf t))
      rw [strsOf_sum, strsOf_len, hrows, hsum, ← hrows] at hjl
      have hrl : (rowsOf t).length ≤ t.length + 1 := by rw [hrows, List.length_append, List.length_singleton]; omega
      refine wpAny_execs_nil ?_
      refine wpAny_execs_cons (wpAny_Return_some (MethodCall_ (MethodCall_ (C.nm rfl hm (C.mF H.H (mF_str _) (fun _ _ _ => sh_str _ _ _ _ _ _) (callWith_fn (P := c.w.params) (mF_str _).2.2 ?_))))))
      refine wpAny_items_cons (wpAny_Constant_str (wpAny_items_nil ⟨C.kx H.H, ?_⟩)) rfl
      rw [show (("\n" : String) : Str) = ⟨#[10]⟩ from lit_nl]
      refine Cf.cl (strF_spec H 2 q ⟨#[10]⟩ _ (by decide) (by simp at o2; omega) (by omega) (hmem hsp) (hmem hch q (by simp)) ?_) (Nat.le_refl _) C trivial ?_
      · rw [strsOf_sum, hsum, strsOf_len]; simp; omega
      rintro _ ⟨h, g, dr, tk, os⟩ _ _ ⟨⟨tj, rfl⟩, rfl, rfl⟩ C -
      refine GM.split (callWith_method1 (wpAny_items_cons (wpAny_Constant_str (wpAny_items_nil ?_)) rfl))
      rw [← hrows]
      refine SCG.split1 (Fm := fun s' => Ext h s'.heap ∧ s'.gens = g ∧ s'.os = os) (fun s₁ ob kk z => ⟨z.1.trans (Ext.push _ _), z.2.1, z.2.2⟩) ⟨Ext.refl _, rfl, rfl⟩ (by decide) (fun D l s₅ hl z hD => ?_) ?_ ?_
      · rw [split_join 10 (strsOf (rowsOf t)) (by simp [rowsOf]) (fun p hp => by
          obtain ⟨l, hl, rfl⟩ := List.mem_map.mp hp
          intro h10
          have := rows_mem hsp l hl 10 (by simpa using h10)
          exact absurd this (by decide +kernel))] at hl
        have W := C.w.ext z.1 (by rw [z.2.1]; exact C.w.bare) (g' := s₅.gens)
        refine k (.ref D) s₅ ⟨D, _, rfl, hD, ?_⟩ (fun a ob n1 n2 e => z.1 _ _ (C.pv a ob ?_ e)) W.t1 W.t2 W.bare (z.2.2.trans C.osE)
        · exact (vals_strs hl).mono fun _ _ => PR.er
        · simp only [Ob.mut, List.mem_cons, List.not_mem_nil, or_false, not_or]
          exact ⟨fun q => (by rw [q, g1] at e; cases e), fun q => (by rw [q, g2] at e; cases e), fun q => (by rw [q, g3] at e; cases e), n1, n2⟩
      · rw [sizeLine_eq]; omega
      · exact parts_le _ _ (by omega)
end
end
section
open _root_.PySem _root_.PySem.W _root_.PySem.Calls _root_.PyProof.Rows
set_option linter.unusedVariables false
set_option linter.unusedSimpArgs false
set_option linter.deprecated false
variable {c : Cx} {f : Fm} {ρ : Loc}
/-- list(range(..)) -/
noncomputable def rangeL (a st : Int) (n : Nat) : List Int := (List.range n).map fun (k : Nat) => a + k * st
theorem items_ints {h : Heap} {a st : Int} {n : Nat} {acc : Array Value} (hacc : ItemsOf (fun i v => ∃ t, v = Value.int (a + i * st) t) acc n) : All2 (ER h) (intl (rangeL a st n)) acc.toList := by
  have key : ∀ (l : List Nat) (ws : List Value), l.length = ws.length → (∀ (j k : Nat) (w : Value), l[j]? = some k → ws[j]? = some w → ∃ t, w = Value.int (a + k * st) t) → All2 (ER h) (intl (l.map fun (k : Nat) => a + k * st)) ws := by
    intro l
    induction l with
    | nil => intro ws e _; cases ws with | nil => trivial | cons _ _ => cases e
    | cons k l ih =>
      intro ws e hh
      cases ws with
      | nil => cases e
      | cons w ws =>
        obtain ⟨t, rfl⟩ := hh 0 k w rfl rfl
        exact ⟨⟨t, rfl⟩, ih ws (by simpa using e) fun j k w h1 h2 => hh (j + 1) k w (by simpa using h1) (by simpa using h2)⟩
  refine key (List.range n) acc.toList (by simp [hacc.1]) fun j k w h1 h2 => ?_
  have hj : j < n := by have := (List.getElem?_eq_some_iff.mp h1).1; simpa using this
  rw [List.getElem?_range hj] at h1
  cases h1
  exact hacc.2 j w (by simpa using h2)
theorem Op.listRange {a st : Int} {n : Nat} (hn : n ≤ 100000) : Op1 c (fun w => PySem.call (.type "list") [w]) (.rng a st n) (.new (intl (rangeL a st n))) := by
  rintro wa h₁ A s E Qs hr _ ⟨r, rfl, b, t, u, v, hR, hsm, hsz⟩ k
  refine call_list_range hr.handled hR hsm hsz (by omega) fun h' tk acc' c' hk hS' hacc => ?_
  exact k _ _ ⟨hk, rfl, rfl⟩ ⟨_, acc', rfl, fresh_size _, ⟨c', hS'⟩, items_ints hacc⟩
theorem Op.divmod {a b : Int} (h : b ≠ 0) (hb : b.natAbs < 1073741824) : Op2 c (fun w w' => PySem.call (.builtin "divmod") [w, w']) (.int a) (.int b) (.tup [.int (a.fdiv b), .int (a.fmod b)]) := by
  rintro wa wb h₁ h₂ A s E Qs _ _ ⟨t, rfl⟩ ⟨u, rfl⟩ k
  refine divmod_int h (k _ _ ⟨Ext.push _ _, rfl, rfl⟩ ⟨_, _, rfl, ⟨_, Heap.get?_push_size _ rfl, rfl, 0, rfl⟩, ⟨_, rfl⟩, ⟨_, rfl⟩, trivial⟩) (.inl (PyProof.noPylong_small hb))
theorem WT.cmpL {a b : Expr} {op : CmpOp} {pos : Pos} {Q : Bool → Prop} (hop : op = .Eq ∨ op = .NotEq) (hd : 2 ≤ f.d)
    (h : WE c f ρ a fun va => WE c f ρ b fun vb => ∃ la lb, va.list? = some (intl la) ∧ vb.list? = some (intl lb) ∧ Q (if op = .Eq then decide (la = lb) else !decide (la = lb)))
    (hm : behindInMarks op b = false := by with_unfolding_all rfl) : WT c f ρ (.Compare a [op] [b] pos) Q :=
  fun Z s E Qs m ad R k => wpAny_isTrue_Compare1 (h Z s E _ m ad R fun va wa s₁ hb x₁ v₁ => hb Z s₁ E _ m ad (R.ext x₁.x) fun vb wb s₂ hr x₂ v₂ => by
    obtain ⟨la, lb, h1, h2, q⟩ := hr
    obtain ⟨aa, ia, rfl, hla, qa⟩ := (v₁.mono x₂.x).isList h1
    obtain ⟨ab, ib, rfl, hlb, qb⟩ := v₂.isList h2
    have hu : f.A.units + 64 < cLine := by have := R.room.units; omega
    rcases hop with rfl | rfl
    · exact ke_eq_ints (xs := ia.toList) (ys := ib.toList) (by simpa using hla) (by simpa using hlb) (intl_are qa) (intl_are qb) hu (wpAny_truthy_bool (k _ s₂ q (x₁.trans x₂)))
    · exact ke_ne_ints (xs := ia.toList) (ys := ib.toList) (by simpa using hla) (by simpa using hlb) (intl_are qa) (intl_are qb) hu (wpAny_truthy_bool (k _ s₂ q (x₁.trans x₂)))) hm
/-- a built-in of one, of two values -/
theorem WE.b1 {g : String} {fv : Value} (b : BI c g fv) (ok : c.Ok) {px pos : Pos} {e : Expr} {Q : V → Prop} (hn : f.sc.names.lookup (Str.ofString g) = some .globalImplicit)
    (h : WE c f ρ e fun v => ∃ r, Op1 c (fun w => PySem.call fv [w]) v r ∧ Q r) (hp : plainE e = true := by rfl) : WE c f ρ (.Call (.Name (Str.ofString g) px) [e] [] pos) Q :=
  WE.bic b ok hn (WE.mono h fun v hv => by obtain ⟨r, ho, q⟩ := hv; exact ⟨r, OpN.one (g := fun ws => PySem.call fv ws) ho, q⟩) (by simp [hp]) (by simp)
theorem WE.b2 {g : String} {fv : Value} (b : BI c g fv) (ok : c.Ok) {px pos : Pos} {e e' : Expr} {Q : V → Prop} (hn : f.sc.names.lookup (Str.ofString g) = some .globalImplicit)
    (h : WE c f ρ e fun v => WE c f ρ e' fun v' => ∃ r, Op2 c (fun w w' => PySem.call fv [w, w']) v v' r ∧ Q r) (hp : plainE e = true := by rfl) (hp' : plainE e' = true := by rfl) : WE c f ρ (.Call (.Name (Str.ofString g) px) [e, e'] [] pos) Q :=
  WE.bic b ok hn (WE.mono h fun v hv => WE.mono hv fun v' hv' => by obtain ⟨r, ho, q⟩ := hv'; exact ⟨r, OpN.two (g := fun ws => PySem.call fv ws) ho, q⟩) (by simp [hp, hp']) (by simp)
end
section
open _root_.PySem _root_.PySem.W _root_.PySem.Calls _root_.PyProof.Rows
set_option linter.unusedVariables false
set_option linter.unusedSimpArgs false
set_option linter.deprecated false
variable {c : Cx} {f : Fm} {ρ : Loc}
theorem intl_getF {l : List Int} {i : Nat} {v : V} (h : (intl l)[i]? = some v) : ∃ k, l[i]? = some k ∧ v = .int k := by
  unfold intl at h
  rw [List.getElem?_map] at h
  cases q : l[i]? with
  | none => rw [q] at h; cases h
  | some k => rw [q] at h; cases h; exact ⟨k, rfl, rfl⟩
theorem intl_appendF (l : List Int) (x : Int) : intl l ++ [.int x] = intl (l ++ [x]) := by simp [intl]
theorem rng_get {a st : Int} {n i : Nat} {v : V} (h : ((List.range n).map fun (k : Nat) => V.int (a + k * st))[i]? = some v) : i < n ∧ v = .int (a + i * st) := by
  rw [List.getElem?_map] at h
  have hi : i < n := by
    by_cases hi : i < n
    · exact hi
    · rw [List.getElem?_eq_none (by simpa using hi)] at h; cases h
  rw [List.getElem?_range hi] at h
  cases h
  exact ⟨hi, rfl⟩
noncomputable def restOf (size wide slant spot : Int) : Int :=
  ((spot + 50).fmod 100).fmod (size.fdiv wide) * wide + ((spot + 50).fdiv 100 - ((spot + 50).fmod 100).fdiv (size.fdiv wide) * slant).fmod wide
noncomputable def fillsAt (spots : List Int) (wide slant : Int) : Bool := decide (isort (spots.map (restOf spots.length wide slant)) = rangeL 0 1 spots.length)
noncomputable def slants (n k : Nat) : Nat := if n % (k + 1) = 0 then k + 1 else 0
noncomputable def fillsF (spots : List Int) : Bool := (List.range spots.length).any fun k => (List.range (slants spots.length k)).any fun j => fillsAt spots ((1 : Int) + (k : Nat) * 1) ((0 : Int) + (j : Nat) * 1)
theorem fills_true {spots : List Int} {k j : Nat} (hk : k < spots.length) (hj : j < slants spots.length k) (h : fillsAt spots ((1 : Int) + (k : Nat) * 1) ((0 : Int) + (j : Nat) * 1) = true) : fillsF spots = true := by
  unfold fillsF
  rw [List.any_eq_true]
  refine ⟨k, List.mem_range.mpr hk, ?_⟩
  rw [List.any_eq_true]
  exact ⟨j, List.mem_range.mpr hj, h⟩
theorem fills_false {spots : List Int} (h : ∀ k, k < spots.length → ∀ j, j < slants spots.length k → fillsAt spots ((1 : Int) + (k : Nat) * 1) ((0 : Int) + (j : Nat) * 1) = false) : fillsF spots = false := by
  rw [Bool.eq_false_iff]
  intro e
  unfold fillsF at e
  rw [List.any_eq_true] at e
  obtain ⟨k, hk, e⟩ := e
  rw [List.any_eq_true] at e
  obtain ⟨j, hj, e⟩ := e
  rw [h k (List.mem_range.mp hk) j (List.mem_range.mp hj)] at e
  cases e
set_option maxRecDepth 100000 in
inductive FlA (spots : List Int) (k : Nat) (ρ : Loc) : Prop
  | mk (g1 : ρ "spots" = some (.val (.lst (intl spots)))) (g2 : ρ "size" = some (.val (.int spots.length))) (g3 : ∀ k', k' < k → k' < spots.length → ∀ j, j < slants spots.length k' → fillsAt spots ((1 : Int) + (k' : Nat) * 1) ((0 : Int) + (j : Nat) * 1) = false)
inductive FlB (spots : List Int) (k : Nat) (j : Nat) (ρ : Loc) : Prop
  | mk (g1 : ρ "spots" = some (.val (.lst (intl spots)))) (g2 : ρ "size" = some (.val (.int spots.length))) (g3 : ρ "wide" = some (.val (.int ((1 : Int) + (k : Nat) * 1)))) (g4 : ∀ j', j' < j → j' < slants spots.length k → fillsAt spots ((1 : Int) + (k : Nat) * 1) ((0 : Int) + (j' : Nat) * 1) = false)
inductive FlC (spots : List Int) (wide slant : Int) (i : Nat) (ρ : Loc) : Prop
  | mk (g1 : ρ "spots" = some (.val (.lst (intl spots)))) (g2 : ρ "size" = some (.val (.int spots.length))) (g3 : ρ "wide" = some (.val (.int wide))) (g4 : ρ "slant" = some (.val (.int slant))) (g5 : ρ "rests" = some (.own (.list (intl ((spots.take i).map (restOf spots.length wide slant))))))
set_option maxHeartbeats 1000000 in
theorem fills_spec {c : Cx} (H : Here c) (n : Nat) (spots : List Int) (hs : spots.length < 64) : FS c (n + 3) 225 [.lst (intl spots)] fun v => v = .bool (fillsF spots) := by
  refine' FS.introC (xs := ["spots"]) H.ok ?ho ?hcd ?hbind ?hx ?hxl rfl ?h ?hco ?hgen ?hk
  case ho => rw [H.K]; with_unfolding_all rfl
  case hcd => rw [H.K]; kernel_rfl
  case hbind =>
    intro ws hw
    obtain ⟨w, rfl⟩ := len_one hw
    with_unfolding_all rfl
  case hx => decide
  case hxl => decide
  case hco => rfl
  case hgen => rfl
  case hk => rfl
  case h =>
    intro L qual fa code A he
    have eL : ((intl spots).length : Int) = spots.length := by simp [intl]
    refine WB.cons (WS.asg (WE.bic (bi_len H) H.ok (by kernel_rfl) (WE.name (by walk_at "lk") ⟨_, OpN.one (Op.len rfl (by simp [intl]; omega)), _, rfl, ?_⟩)) (by walk_at "nk"))
    rw [eL]
    refine WB.cons (WS.for_ (WE.bic (bi_range H) H.ok (by kernel_rfl) (WE.int (WE.bin (WE.name (by walk_at "lk") (WE.int ⟨_, Op.add _ _, _, OpN.two (Op.range2 (by omega) (by omega)), rfl, _, rfl, ?_⟩))))))
    have e1 : ((spots.length : Int) + 1 - 1).toNat = spots.length := by omega
    rw [e1]
    refine ⟨FlA spots, ⟨by walk_at "lk", by walk_at "lk", fun _ h => absurd h (Nat.not_lt_zero _)⟩, ?_, ?_⟩
    · rintro k v ρ hk ⟨g1, g2, g3⟩
      obtain ⟨hkl, rfl⟩ := rng_get hk
      refine ⟨_, AsgOk.name rfl (by walk_at "nk"), ?_⟩
      have hw0 : ((1 : Int) + (k : Nat) * 1) ≠ 0 := by omega
      have hsz : slants spots.length k ≤ spots.length := by
        unfold slants; split <;> omega
      refine WB.cons (WS.for_ (WE.bic (bi_range H) H.ok (by kernel_rfl) (WE.mono (Q := fun v => v = .int (slants spots.length k)) (WE.ifexp (WT.cmp (WE.bin (WE.name (by walk_at "lk") (WE.name (by walk_at "lk") ⟨_, Op.mod hw0, WE.int ⟨_, Op.eq _ _, ?_⟩⟩))))) (fun v hv => by
        subst hv
        refine ⟨_, OpN.one (Op.range1 (by omega)), rfl, _, rfl, ?_⟩
        rw [Int.toNat_natCast]
        refine ⟨FlB spots k, ⟨by walk_at "lk", by walk_at "lk", by walk_at "lk", fun _ h => absurd h (Nat.not_lt_zero _)⟩, ?_, ?_⟩
        · rintro j v ρ hj ⟨g1, g2, gw, g4⟩
          obtain ⟨hjl, rfl⟩ := rng_get hj
          refine ⟨_, AsgOk.name rfl (by walk_at "nk"), ?_⟩
          refine WB.cons (WS.asg (WE.list ⟨rfl, by decide, _, rfl, ?_⟩) (by walk_at "nk"))
          generalize hwd : ((1 : Int) + (k : Nat) * 1) = wide at *
          generalize hsd : ((0 : Int) + (j : Nat) * 1) = slant at *
          have hq0 : (spots.length : Int).fdiv wide ≠ 0 := by
            rw [Int.fdiv_eq_ediv_of_nonneg _ (by omega)]
            have : 1 ≤ (spots.length : Int) / wide := by rw [Int.le_ediv_iff_mul_le (by omega)]; omega
            omega
          refine WB.cons (WS.for_arg (l := intl spots) (by walk_at "lk") ?_)
          refine ⟨FlC spots wide slant, ⟨by walk_at "lk", by walk_at "lk", by walk_at "lk", by walk_at "lk", by walk_at "lk"⟩, ?_, ?_⟩
          · rintro i v ρ hi ⟨k1, k2, k3, k4, k5⟩
            obtain ⟨q, hqi, rfl⟩ := intl_getF hi
            have hil : i < spots.length := (List.getElem?_eq_some_iff.mp hqi).1
            refine ⟨_, AsgOk.name rfl (by walk_at "nk"), ?_⟩
            refine WB.cons (WS.asgT (xs := ["across", "height"]) (WE.bic (bi_divmod H) H.ok (by kernel_rfl) (WE.bin (WE.name (by walk_at "lk") (WE.int ⟨_, Op.add _ _, WE.int ⟨_, OpN.two (Op.divmod (by decide) (by decide)), _, rfl, rfl, rfl, ?_⟩⟩)))) (.cons (.cons .nil)) ?_)
            · simp only [updN]
              refine WB.cons (WS.asgT (xs := ["turn", "level"]) (WE.bic (bi_divmod H) H.ok (by kernel_rfl) (WE.name (by walk_at "lk") (WE.bin (WE.name (by walk_at "lk") (WE.name (by walk_at "lk") ⟨_, Op.fdiv (b := wide) (by omega) (by omega), _, OpN.two (Op.divmod hq0 ?_) ?_, _, rfl, rfl, rfl, ?_⟩))))) (.cons (.cons .nil)) ?_)
              rotate_left
              · intros; rfl
              rotate_left
              rotate_left
              · have h1 := Int.fdiv_eq_ediv_of_nonneg (spots.length : Int) (b := wide) (by omega)
                have h2 := Int.ediv_le_self (a := (spots.length : Int)) wide (by omega)
                have h3 := Int.ediv_nonneg (a := (spots.length : Int)) (b := wide) (by omega) (by omega)
                show ((spots.length : Int).fdiv wide).natAbs < _
                rw [h1]; omega
              · simp only [updN]
                refine WB.cons (WS.append (l := intl ((spots.take i).map (restOf spots.length wide slant))) (by walk_at "lk") (by simp [intl]; omega) ?_)
                refine WE.bin (WE.bin (WE.name (by walk_at "lk") (WE.name (by walk_at "lk") ⟨_, Op.mul (b := wide) (.inr (by omega)), ?_⟩)))
                refine WE.bin (WE.bin (WE.name (by walk_at "lk") (WE.bin (WE.name (by walk_at "lk") (WE.name (by walk_at "lk") ⟨_, Op.mul (b := slant) (.inr (by omega)), _, Op.sub _ _, ?_⟩)))))
                refine WE.name (by walk_at "lk") ⟨_, Op.mod (b := wide) (by omega), _, Op.add _ _, rfl, ?_⟩
                refine WB.nil ⟨by walk_at "lk", by walk_at "lk", by walk_at "lk", by walk_at "lk", ?_⟩
                rw [intl_appendF]
                have e : (spots.take (i + 1)).map (restOf spots.length wide slant) = (spots.take i).map (restOf spots.length wide slant) ++ [restOf spots.length wide slant q] := by
                  rw [List.take_succ, hqi]; simp
                rw [e]
                exact upd_self
              · intro x hx
                simp only [List.mem_cons, List.not_mem_nil, or_false] at hx
                rcases hx with rfl | rfl <;> walk_at "nk"
            · intro x hx
              simp only [List.mem_cons, List.not_mem_nil, or_false] at hx
              rcases hx with rfl | rfl <;> walk_at "nk"
          · rintro ρ ⟨k1, k2, k3, k4, k5⟩
            have e : (spots.take (intl spots).length).map (restOf spots.length wide slant) = spots.map (restOf spots.length wide slant) := by
              rw [show (intl spots).length = spots.length by simp [intl], List.take_length]
            rw [e] at k5
            refine WB.nil (WB.cons (WS.ite (WT.cmpL (.inl rfl) (by show 2 ≤ n + 2; omega) ?_)))
            refine WE.bic (bi_sorted H) H.ok (by kernel_rfl) (WE.name (by walk_at "lk") ⟨_, OpN.one (Op.sorted rfl (by simpa using hs)), ?_⟩)
            refine WE.b1 (bi_list H) H.ok (by kernel_rfl) (WE.b1 (bi_range H) H.ok (by kernel_rfl) (WE.name (by walk_at "lk") ⟨_, Op.range1 (b := spots.length) (by omega), _, Op.listRange (n := (spots.length : Int).toNat) (by omega), _, _, rfl, rfl, ?_⟩))
            rw [if_pos rfl, Int.toNat_natCast]
            rw [show decide (isort (List.map (restOf (↑spots.length) wide slant) spots) = rangeL 0 1 spots.length) = fillsAt spots wide slant from rfl]
            by_cases hb : fillsAt spots wide slant = true
            · rw [if_pos hb]
              refine WB.cons (WS.ret (WE.true_ ?_))
              subst hwd hsd
              rw [fills_true hkl hjl hb]
            · rw [if_neg hb]
              subst hwd hsd
              refine WB.nil (WB.nil ⟨by walk_at "lk", by walk_at "lk", by walk_at "lk", fun j' hj' hj2 => ?_⟩)
              rcases Nat.lt_succ_iff_lt_or_eq.mp hj' with h | rfl
              · exact g4 j' h hj2
              · exact Bool.eq_false_iff.mpr hb
        · rintro ρ ⟨g1, g2, gw, g4⟩
          refine WB.nil (WB.nil ⟨by walk_at "lk", by walk_at "lk", fun k' hk' hk2 j hj => ?_⟩)
          rcases Nat.lt_succ_iff_lt_or_eq.mp hk' with h | rfl
          · exact g3 k' h hk2 j hj
          · exact g4 j (by simpa using hj) hj))))
      have em : ((spots.length : Int).fmod ((1 : Int) + (k : Nat) * 1) == 0) = decide (spots.length % (k + 1) = 0) := by
        rw [Int.fmod_eq_emod_of_nonneg _ (by omega)]
        have : ((1 : Int) + (k : Nat) * 1) = ((k + 1 : Nat) : Int) := by push_cast; omega
        rw [this]
        by_cases h : spots.length % (k + 1) = 0
        · simp only [h, decide_true, beq_iff_eq]
          omega
        · simp only [h, decide_false, beq_eq_false_iff_ne]
          omega
      rw [em]
      by_cases h : spots.length % (k + 1) = 0
      · rw [if_pos (by simp [h])]
        refine WE.name (by walk_at "lk") ?_
        show V.int _ = V.int _
        unfold slants
        rw [if_pos h]
        congr 1
        push_cast; omega
      · rw [if_neg (by simp [h])]
        refine WE.int ?_
        unfold slants
        rw [if_neg h]; rfl
    · rintro ρ ⟨g1, g2, g3⟩
      refine WB.nil (WB.cons (WS.ret (WE.true_ ?_)))
      rw [fills_false fun k hk => g3 k (by simpa using hk) hk]
end
section
open _root_.PySem _root_.PySem.W _root_.PySem.Calls _root_.PyProof.Rows
set_option linter.unusedVariables false
set_option linter.deprecated false
set_option maxRecDepth 100000
namespace Fb
theorem mro : mroOf (.type "bytearray") = pure [.type "bytearray", .type "object"] := by rw [mroOf_type]; kernel_rfl
theorem lookup_new : typeLookup (.type "bytearray") "__new__" = pure (some (.builtin "bytearray.__new__")) := by rw [typeLookup_type, builtinLookup_eq_fast]; kernel_rfl
theorem made : Bind.madeBy (.type "bytearray") = pure (some "bytearray.__new__") := madeBy_type mro lookup_new (by decide +kernel)
theorem slot_init : Slot "bytearray" "__init__" "bytearray.__init__" :=
  .of (owner := "bytearray") (n := "__init__") (by rw [typeLookup_type, builtinLookup_eq_fast]; kernel_rfl) (by decide +kernel) (by decide +kernel) (by decide +kernel)
    (by first | exact .inl (by decide +kernel) | exact .inr (by decide +kernel)) (by rw [isSubtype_type]; kernel_rfl)
theorem typeCall (a : Value) : checkTypeCall "bytearray" ⟨[a], []⟩ = pure () := by kernel_rfl
theorem newCall (a : Value) : checkBuiltinCall "bytearray.__new__" ⟨[.type "bytearray", a], []⟩ = pure () := by kernel_rfl
theorem entry_new : entryFor table "bytearray.__new__" = some Builtin.«list.__new__» := entryFor_alias (id' := "list.__new__") (by kernel_rfl) (by decide +kernel) (by decide +kernel) (by kernel_rfl)
theorem entry_init : entryFor table "bytearray.__init__" = some Builtin.«bytearray.__init__» := entryFor_of_tree (by kernel_rfl)
theorem plain_new : plainId "bytearray.__new__" = true := by decide +kernel
theorem plain_init : plainId "bytearray.__init__" = true := by decide +kernel
theorem ok_tc (a : Args) : okCode (.builtin "type.__call__" a) = true := by
  show (!Builtin.Bytes.decodersThatHold.contains "type.__call__" && !guardIds.contains "type.__call__") = true
  decide +kernel
theorem ok_new (a : Args) : okCode (.builtin "bytearray.__new__" a) = true := by
  show (!Builtin.Bytes.decodersThatHold.contains "bytearray.__new__" && !guardIds.contains "bytearray.__new__") = true
  decide +kernel
theorem ok_init (a : Args) : okCode (.builtin "bytearray.__init__" a) = true := by
  show (!Builtin.Bytes.decodersThatHold.contains "bytearray.__init__" && !guardIds.contains "bytearray.__init__") = true
  decide +kernel
theorem args_init (a b : Value) : argsOk "bytearray.__init__" ⟨[a, b], []⟩ := by unfold argsOk; kernel_rfl
theorem owner_new : ("bytearray.__new__".splitOn ".__new__").headD "" = "bytearray" := by rw [split_bytearray]; rfl
theorem can : (((Manifest.find? "bytearray").bind (·.mro.findSome? fun t => (Manifest.find? t).bind fun b => if b.noNew then some true else if b.attrs.any (·.1 == "__new__") then some false else none)).getD false) = false := by decide +kernel
theorem bind_init (v : Value) : Builtin.Bytes.bindOptional "bytearray.__init__" "bytearray" ["source", "encoding", "errors"] [v] [] = pure [some v, none, none] := by kernel_rfl
theorem no_release : typeLookup (.type "bytearray") "__release_buffer__" = pure (some (.builtin "bytearray.__release_buffer__")) := by rw [typeLookup_type, builtinLookup_eq_fast]; kernel_rfl
end Fb
section
variable {prog : Program} {w : World} {A : Around} {E : Value → Shared → Prop} {s : Shared}
theorem code_new (a : Value) {Q₁ : Value → Shared → Prop} (h : Q₁ (.ref s.heap.objs.size) { s with heap := s.heap.push { cls := .type "bytearray", data := .bytearray #[] } }) :
    codeAny (model prog w) A (.call (.builtin "bytearray.__new__") ⟨[.type "bytearray", a], []⟩) (wants Q₁ E) s := by
  refine codeAny_of_tree ?_
  show wpAny _ A.in1 (do checkBuiltinCall "bytearray.__new__" ⟨[.type "bytearray", a], []⟩; again (.builtin "bytearray.__new__" ⟨[.type "bytearray", a], []⟩)) _ _ s
  refine wpAny_bind (wpAny_of_eq (Fb.newCall a) (wpAny_pure ⟨plainId_quiet Fb.plain_new _, codeAny_builtin_stack Fb.entry_new rfl fun p st => ?_⟩))
  rw [Around.under_plainId Fb.plain_new _]
  have hsub := PySem.F.sub_bytearray_bytearray
  have hown := Fb.owner_new
  obtain ⟨hp, g, d, tk, os⟩ := s
  simp only [hown]
  wp_walk
  exact h
theorem bif_false {α : Type} {M : Model} {c : Bool} {a b : Sem α} {Q : α → Shared → Prop} (hc : c = false) (h : wpB M A b Q E s) : wpB M A (if c = true then a else b) Q E s := by
  subst hc
  exact h
theorem bif_true {α : Type} {M : Model} {c : Bool} {a b : Sem α} {Q : α → Shared → Prop} (hc : c = true) (h : wpB M A a Q E s) : wpB M A (if c = true then a else b) Q E s := by
  subst hc
  exact h
theorem rel_ends : ("bytearray.__release_buffer__".endsWith ("." ++ "__release_buffer__")) = true := by decide +kernel
theorem rel_drop : ("bytearray.__release_buffer__".dropRight ("__release_buffer__".length + 1)) = "bytearray" := by decide +kernel
theorem own_release {x : Addr} {Q : Bool → Shared → Prop} (hT : s.TypeIs (.ref x) "bytearray") (h : Q false s) : wpAny (model prog w) A (Builtin.Bytes.ownRelease (.ref x)) Q E s := by
  unfold Builtin.Bytes.ownRelease Builtin.Bytes.slotIsOwn
  refine wpAny_bind (wpAny_bind (wpAny_specialOf hT Fb.no_release ?_))
  dsimp only
  rw [rel_ends, if_neg (by decide), rel_drop]
  exact wpAny_isInstance hT PySem.F.sub_bytearray_bytearray (wpAny_pure h)
theorem write_ba {x : Addr} {b : Array UInt8} {f : Array UInt8 → Array UInt8} {Q : Unit → Shared → Prop} (hx : s.heap.get? x = some { cls := .type "bytearray", data := .bytearray b }) (hz : (f b).size ≤ 100000)
    (h : ∀ h', Heap.SameBut x s.heap h' → h'.get? x = some { cls := .type "bytearray", data := .bytearray (f b) } → Q () { s with heap := h' }) : wpAny (model prog w) A (Builtin.Bytes.write (.ref x) f) Q E s := by
  show wpAny _ _ (updateBytearray x f) _ _ _
  unfold updateBytearray
  refine wpAny_bind (wpAny_load hx ?_)
  show wpAny _ _ (update x (Obj.mapBytearray f) >>= fun _ => lookBehind x) _ _ _
  refine wpAny_bind (wpAny_update hx ?_)
  have hx' : (s.heap.update x (Obj.mapBytearray f)).get? x = some { cls := .type "bytearray", data := .bytearray (f b) } := Heap.get?_update_self (Obj.mapBytearray f) hx rfl
  refine wpAny_lookBehind hx' ?_ ?_
  · show (if (f b).size > sizeLine then some "bytearray:memory" else none) = none
    rw [if_neg]
    rw [sizeLine_eq]; omega
  · exact h _ (Heap.SameBut.update ..) hx'
theorem asStr_int (i : Int) (t : Tok) : asStr? (.int i t) = pure none := by rfl
theorem body_bytearray {x : Addr} {n : Nat} {t : Tok} {Q : Shared → Prop} (hn : n ≤ 1000) (hx : s.heap.get? x = some { cls := .type "bytearray", data := .bytearray #[] })
    (hQ : ∀ h' tk, Heap.ExtBut x s.heap h' → h'.get? x = some { cls := .type "bytearray", data := .bytearray (Array.replicate n 0) } → Q { s with heap := h', toks := tk }) :
    wpB (model prog w) A (Builtin.«bytearray.__init__» ⟨[.ref x, .int n t], []⟩) (fun fin s' => fin = .done (.ret .none) ∧ Q s') E s := by
  have hT : s.TypeIs (.ref x) "bytearray" := ⟨_, hx, rfl⟩
  unfold Builtin.«bytearray.__init__»
  show wpB _ _ (Builtin.Bytes.ownRelease (.ref x) >>= _) _ _ _
  refine wpB.bind (wpB.of (own_release hT ?_))
  refine bif_false rfl ?_
  refine wpB.bind (wpB.of (wpAny_of_eq (Fb.bind_init _) ?_))
  refine wpB.bind (wpB.of (wpAny_of_eq (a := ()) rfl ?_))
  refine wpB.bind (wpB.of (wpAny_of_eq (a := ()) rfl ?_))
  refine wpB.bind ?_
  unfold orM
  refine wpB.bind (exported_no ?_)
  refine wpB.bind (wpB.of ?_)
  unfold Builtin.Bytes.exportsOf
  refine wpAny_bind (wpAny_load hx ?_)
  refine wpAny_pure (wpB.pure ?_)
  refine bif_false (c := false) rfl ?_
  refine wpB.bind (wpB.of (write_ba hx (by simp) fun h₁ hs₁ hx₁ => ?_))
  show wpB _ _ (asStr? (.int n t) >>= _) _ _ _
  rw [asStr_int]
  with_reducible refine wpB.bind ?_
  with_reducible refine wpB.pure ?_
  dsimp only
  with_reducible refine bif_false ?_ ?_
  · rfl
  with_reducible refine wpB.bind ?_
  with_reducible refine wpB.of (wpAny_of_eq (a := ()) ?_ ?_)
  · rfl
  with_reducible refine wpB.bind ?_
  with_reducible refine wpB.of (wpAny_specialOf (typeIs_int _ _ _) int_index ?_)
  with_reducible refine bif_true ?_ ?_
  · rfl
  with_reducible refine wpB.bind ?_
  with_reducible refine wpB.of (wpAny_attempt (wpAny_of_eq (a := (n : Int)) ?_ ?_))
  · rfl
  dsimp only
  have e1 : Builtin.Bytes.fitsIndex (n : Int) = true := by
    unfold Builtin.Bytes.fitsIndex
    simp only [Bool.and_eq_true, decide_eq_true_eq]
    constructor <;> omega
  have e2 : ((n : Int) == 2 ^ 63 - 1) = false := by
    rw [beq_eq_false_iff_ne]; omega
  have e3 : Builtin.Bytes.tooLong ((n : Int).toNat) = false := by
    unfold Builtin.Bytes.tooLong
    rw [sizeLine_eq, decide_eq_false_iff_not]; omega
  with_reducible refine bif_false ?_ ?_
  · rw [e1]; rfl
  rw [if_neg (show ¬ ((n : Int) < 0) by omega)]
  with_reducible refine bif_false ?_ ?_
  · exact e2
  with_reducible refine bif_false ?_ ?_
  · exact e3
  with_reducible refine wpB.bind ?_
  with_reducible refine wpB.of (wpAny_rule ?_)
  by_cases hp : (n : Int) > 0
  · rw [if_pos hp]
    with_reducible refine wpB.bind ?_
    refine wpB.of (write_ba hx₁ (by simp; omega) fun h₂ hs₂ hx₂ => ?_)
    refine wpB.pure ⟨rfl, ?_⟩
    refine hQ h₂ _ (fun b o hb e => hs₂.extBut b o hb (hs₁.extBut b o hb e)) ?_
    rw [Int.toNat_natCast] at hx₂
    exact hx₂
  · rw [if_neg hp]
    have h0 : n = 0 := by omega
    subst h0
    refine wpB.pure ⟨rfl, ?_⟩
    exact hQ h₁ _ hs₁.extBut hx₁
theorem call_bytearray {n : Nat} {t : Tok} {Q : Value → Shared → Prop} (hn : n ≤ 1000)
    (hQ : ∀ h' tk, (∀ b o, s.heap.get? b = some o → h'.get? b = some o) → h'.get? s.heap.objs.size = some { cls := .type "bytearray", data := .bytearray (Array.replicate n 0) } → Q (.ref s.heap.objs.size) { s with heap := h', toks := tk }) :
    wpB (model prog w) A (PySem.call (.type "bytearray") [.int n t]) Q E s := by
  refine wpB.call (codeB.tree rfl ?_)
  show wpB _ _ (callAny (.type "bytearray") _) _ _ _
  refine wpB.pure ⟨Code.quiet_builtin _ (by decide +kernel), codeB_builtin (Fb.ok_tc _) PySem.F.entry_type_call ?_⟩
  rw [Around.under_plain (weight_type_call_type "bytearray" [.int n t] []) (units_type_call_type "bytearray" [.int n t] [])]
  unfold Builtin.«type.__call__»
  dsimp only
  rw [if_neg (by decide)]
  rw [Fb.can, if_neg Bool.false_ne_true]
  rw [Fb.typeCall, Fb.mro, Fb.made]
  refine wpB.bind (wpB.pure ?_)
  refine wpB.bind (wpB.pure ?_)
  rw [if_neg (by decide)]
  refine wpB.bind (wpB.pure ?_)
  dsimp only
  refine wpB.bind (wpB.pure ?_)
  refine wpB.bind (wpB.holding (wpB.of (wpAny_call (code_new _ ?_))))
  have hx : (s.heap.push { cls := .type "bytearray", data := .bytearray #[] }).get? s.heap.objs.size = some { cls := .type "bytearray", data := .bytearray #[] } := Heap.get?_push_size _ rfl
  have hT : ({ s with heap := s.heap.push { cls := .type "bytearray", data := .bytearray #[] } } : Shared).TypeIs (.ref s.heap.objs.size) "bytearray" := ⟨_, hx, rfl⟩
  refine wpB.bind (wpB.of (wpAny_isInstance hT PySem.F.sub_bytearray_bytearray ?_))
  rw [if_neg (by decide)]
  refine wpB.bind (wpB.holding ?_)
  unfold callSpecial?
  refine wpB.bind (wpB.of (wpAny_specialOf hT Fb.slot_init.lookup ?_))
  dsimp only
  refine wpB.holding ?_
  rw [Fb.slot_init.bind]
  refine wpB.bind (wpB.pure ?_)
  refine wpB.bind (wpB.call (codeB_call_builtin Fb.plain_init (Fb.ok_init _) Fb.entry_init (Fb.slot_init.check _ _ _ _ _ _ _ _ hT (Fb.args_init _ _) ?_)))
  refine wpB.mono (body_bytearray hn hx (Q := fun s' => ∃ h' tk, s' = { s with heap := h', toks := tk } ∧ (∀ b o, s.heap.get? b = some o → h'.get? b = some o) ∧ h'.get? s.heap.objs.size = some { cls := .type "bytearray", data := .bytearray (Array.replicate n 0) }) fun h' tk hx' e => ⟨h', tk, rfl, fun b o q => hx' b o (Nat.ne_of_lt (Heap.lt_size q)) (Heap.get?_push_of_some _ q), e⟩) (fun fin s' z => ?_) fun _ _ z => z
  obtain ⟨rfl, h', tk, rfl, k1, k2⟩ := z
  refine wpB.pure (wpB.pure ?_)
  exact hQ h' tk k1 k2
end
end
section
open _root_.PySem _root_.PySem.W _root_.PySem.Calls _root_.PyProof.Rows
set_option linter.unusedVariables false
set_option linter.deprecated false
set_option maxRecDepth 100000
namespace Fb
theorem slot_set : Slot "bytearray" "__setitem__" "bytearray.__setitem__" :=
  .of (owner := "bytearray") (n := "__setitem__") (by rw [typeLookup_type, builtinLookup_eq_fast]; kernel_rfl) (by decide +kernel) (by decide +kernel) (by decide +kernel)
    (by first | exact .inl (by decide +kernel) | exact .inr (by decide +kernel)) (by rw [isSubtype_type]; kernel_rfl)
theorem entry_set : entryFor table "bytearray.__setitem__" = some Builtin.«bytearray.__setitem__» := by first | exact entryFor_of_fast (by kernel_rfl) | exact entryFor_of_tree (by kernel_rfl)
theorem args_set (a b c : Value) : argsOk "bytearray.__setitem__" ⟨[a, b, c], []⟩ := by unfold argsOk; kernel_rfl
theorem noBytes : typeLookup (.type "bytearray") "__bytes__" = pure none := by rw [typeLookup_type, builtinLookup_eq_fast]; kernel_rfl
theorem noIndex : typeLookup (.type "bytearray") "__index__" = pure none := by rw [typeLookup_type, builtinLookup_eq_fast]; kernel_rfl
theorem buffer : typeLookup (.type "bytearray") "__buffer__" = pure (some (.builtin "bytearray.__buffer__")) := by rw [typeLookup_type, builtinLookup_eq_fast]; kernel_rfl
theorem buf_ends : ("bytearray.__buffer__".endsWith ("." ++ "__buffer__")) = true := by decide +kernel
theorem buf_drop : ("bytearray.__buffer__".dropRight ("__buffer__".length + 1)) = "bytearray" := by decide +kernel
end Fb
section
variable {prog : Program} {w : World} {A : Around} {E : Value → Shared → Prop} {s : Shared}
theorem set_ba {x : Addr} {b : Array UInt8} {k y : Nat} {t u : Tok} {Q : Unit → Shared → Prop} (hx : s.heap.get? x = some { cls := .type "bytearray", data := .bytearray b }) (hk : k < b.size) (hy : y < 256) (hz : b.size ≤ 100000)
    (h : ∀ h', Heap.SameBut x s.heap h' → h'.get? x = some { cls := .type "bytearray", data := .bytearray (b.setIfInBounds k y.toUInt8) } → Q () { s with heap := h' }) : wpAny (model prog w) A (setItem (.ref x) (.int k t) (.int y u)) Q E s := by
  have hT : s.TypeIs (.ref x) "bytearray" := ⟨_, hx, rfl⟩
  unfold setItem
  refine wpAny_holding ?_
  refine wpAny_bind (wpAny_sequenceKey hT (by decide) ?_)
  refine wpAny_bind (wpAny_callSpecial?_slot (name := Str.ofString "__setitem__") hT Fb.slot_set (wpAny_call_entry Fb.slot_set hT Fb.entry_set ?_ (Fb.args_set _ _ _)))
  unfold Builtin.«bytearray.__setitem__»
  with_reducible refine PySem.bm_if_false ?_ ?_
  · rfl
  show wpAny _ _ (Builtin.Bytes.subscript? (.int k t) >>= _) _ _ _
  with_reducible refine wpAny_bind ?_
  unfold Builtin.Bytes.subscript?
  with_reducible refine wpAny_bind ?_
  with_reducible refine wpAny_specialOf (typeIs_int _ _ _) int_index ?_
  with_reducible refine PySem.bm_if_false ?_ ?_
  · rfl
  with_reducible refine wpAny_bind ?_
  with_reducible refine wpAny_of_eq (a := (k : Int)) ?_ ?_
  · rfl
  have e1 : Builtin.Bytes.fitsIndex (k : Int) = true := by
    unfold Builtin.Bytes.fitsIndex
    simp only [Bool.and_eq_true, decide_eq_true_eq]
    constructor <;> omega
  with_reducible refine PySem.bm_if_false ?_ ?_
  · rw [e1]; rfl
  refine wpAny_pure ?_
  dsimp only
  with_reducible refine wpAny_bind ?_
  unfold Builtin.Bytes.byteValue
  with_reducible refine wpAny_bind ?_
  with_reducible refine wpAny_of_eq (a := (y : Int)) ?_ ?_
  · rfl
  with_reducible refine PySem.bm_if_false ?_ ?_
  · simp only [Bool.or_eq_false_iff, decide_eq_false_iff_not]; omega
  refine wpAny_pure ?_
  with_reducible refine wpAny_bind ?_
  unfold Builtin.Bytes.payload Builtin.Bytes.payload?
  with_reducible refine wpAny_bind ?_
  refine wpAny_bind (wpAny_load hx (wpAny_pure (wpAny_pure ?_)))
  have e2 : seqIndex? (k : Int) b.size = some k := by
    unfold seqIndex?
    simp; omega
  rw [e2]
  dsimp only
  with_reducible refine wpAny_bind ?_
  refine write_ba hx (by simp; omega) fun h' hs' hx' => ?_
  refine wpAny_pure ⟨.none, rfl, wpAny_pure ?_⟩
  exact h h' hs' hx'
theorem own_slot {x : Addr} {Q : Bool → Shared → Prop} (hT : s.TypeIs (.ref x) "bytearray") (h : Q true s) : wpAny (model prog w) A (Builtin.Bytes.slotIsOwn (.ref x) "__buffer__") Q E s := by
  unfold Builtin.Bytes.slotIsOwn
  refine wpAny_bind (wpAny_specialOf hT Fb.buffer ?_)
  dsimp only
  rw [Fb.buf_ends, if_neg (by decide), Fb.buf_drop]
  exact wpAny_isInstance hT PySem.F.sub_bytearray_bytearray h
theorem bytes_ba {x : Addr} {b : Array UInt8} {Q : Value → Shared → Prop} (hx : s.heap.get? x = some { cls := .type "bytearray", data := .bytearray b }) (hz : b.size ≤ 100000)
    (hQ : ∀ t k, Q (.bytes b t) { s with toks := k }) : codeAny (model prog w) A (.call (.builtin "bytes.__new__") ⟨[.type "bytes", .ref x], []⟩) (wants Q E) s := by
  refine codeAny_of_tree ?_
  show wpAny _ A.in1 (do checkBuiltinCall "bytes.__new__" ⟨[.type "bytes", .ref x], []⟩; again (.builtin "bytes.__new__" ⟨[.type "bytes", .ref x], []⟩)) _ _ s
  refine wpAny_bind (wpAny_of_eq (PySem.F.bm_newCall _) (wpAny_pure ⟨plainId_quiet PySem.F.bm_plain _, codeAny_builtin PySem.F.bm_entry ?_⟩))
  rw [Around.under_plainId PySem.F.bm_plain _]
  have hT : s.TypeIs (.ref x) "bytearray" := ⟨_, hx, rfl⟩
  unfold Builtin.«bytes.__new__»
  refine wpAny_bind (wpAny_of_eq (a := true) rfl ?_)
  refine PySem.bm_if_false rfl ?_
  refine wpAny_bind (wpAny_of_eq PySem.F.bm_sub ?_)
  refine PySem.bm_if_false rfl ?_
  refine wpAny_bind (wpAny_of_eq (PySem.F.bm_bind _) ?_)
  refine wpAny_bind (wpAny_of_eq (a := ()) rfl ?_)
  refine wpAny_bind (wpAny_of_eq (a := ()) rfl ?_)
  refine PySem.bm_if_false rfl ?_
  refine wpAny_bind (wpAny_specialOf hT Fb.noBytes ?_)
  refine wpAny_bind (wpAny_bind ?_)
  show wpAny _ _ (load x >>= _) _ _ _
  refine wpAny_bind (wpAny_load hx ?_)
  refine wpAny_pure (wpAny_pure ?_)
  refine PySem.bm_if_false rfl ?_
  refine wpAny_bind (wpAny_specialOf hT Fb.noIndex ?_)
  refine PySem.bm_if_true rfl ?_
  first
    | show wpAny _ _ (Builtin.Bytes.buffer? "bytes.__new__" (.ref x) true >>= _) _ _ _
    | (refine wpAny_bind ?_; show wpAny _ _ (Builtin.Bytes.buffer? "bytes.__new__" (.ref x) true >>= _) _ _ _)
  refine wpAny_bind ?_
  unfold Builtin.Bytes.buffer?
  refine wpAny_bind (wpAny_specialOf hT Fb.buffer ?_)
  with_reducible refine wpAny_bind ?_
  refine own_slot hT ?_
  with_reducible refine PySem.bm_if_false ?_ ?_
  · rfl
  with_reducible refine wpAny_bind ?_
  with_reducible refine wpAny_specialOf hT Fb.buffer ?_
  show wpAny _ _ (Builtin.Bytes.ownRelease (.ref x) >>= _) _ _ _
  with_reducible refine wpAny_bind ?_
  refine own_release hT ?_
  with_reducible refine PySem.bm_if_false ?_ ?_
  · rfl
  with_reducible refine wpAny_bind ?_
  unfold Builtin.Bytes.payload Builtin.Bytes.payload?
  refine wpAny_bind (wpAny_bind (wpAny_load hx (wpAny_pure (wpAny_pure ?_))))
  with_reducible refine wpAny_pure ?_
  dsimp only
  refine wpAny_bind (wpAny_rule ?_)
  refine wpAny_bind (wpAny_mkBytes ?_ (by rw [sizeLine_eq]; omega))
  show wpAny _ _ (if (Value.type "bytes" == Value.type "bytes") = true then _ else _) _ _ _
  refine PySem.bm_if_true (by decide) ?_
  first
    | exact wpAny_pure (hQ _ _)
    | exact wpAny_bind (wpAny_pure (wpAny_pure (hQ _ _)))
theorem call_bytes_ba {x : Addr} {b : Array UInt8} {Q : Value → Shared → Prop} (hx : s.heap.get? x = some { cls := .type "bytearray", data := .bytearray b }) (hz : b.size ≤ 100000)
    (hQ : ∀ t k, Q (.bytes b t) { s with toks := k }) : wpAny (model prog w) A (call (.type "bytes") [.ref x]) Q E s := by
  refine callType_codes (Q₁ := fun obj s₁ => s₁.TypeIs obj "bytes" ∧ Q obj s₁) PySem.F.bm_called (PySem.F.bm_typeCall _) PySem.F.entry_object_init
    (bytes_ba hx hz fun t k => ⟨PySem.W.typeIs_bytes _ _ _, hQ t k⟩) fun obj s₁ h₁ => ?_
  exact ⟨h₁.1, PySem.F.args_object_init_2 obj _, object_init_meets PySem.F.bm_called.init.lookup PySem.F.bm_called.made (by decide) prog w A.in1 _ s₁ ⟨h₁.1, rfl, h₁.2⟩⟩
end
section
variable {c : Cx} {f : Fm} {ρ : Loc}
theorem Op.bytesB {b : List Nat} (hz : b.length ≤ 100000) : Op1 c (fun w => PySem.call (.type "bytes") [w]) (.brs b) (.byt b) := by
  rintro wa h₁ A s E Qs _ _ ⟨x, rfl, bs, hx, rfl⟩ k
  refine call_bytes_ba hx (by simpa using hz) fun t tk => k _ _ ⟨Ext.refl _, rfl, rfl⟩ ⟨_, _, rfl, rfl⟩
theorem byteArr_nat : ∀ {l : List Int}, (∀ n ∈ l, 0 ≤ n ∧ n < 256) → (byteArr l).toList.map UInt8.toNat = l.map Int.toNat
  | [], _ => rfl
  | n :: l, h => by
    have h1 := h n (.head _)
    have ih := byteArr_nat (l := l) fun m hm => h m (.tail _ hm)
    have e : (byteArr (n :: l)).toList = n.toNat.toUInt8 :: (byteArr l).toList := by simp [byteArr]
    rw [e, List.map_cons, List.map_cons, ih]
    congr 1
    show (UInt8.ofNat n.toNat).toNat = _
    rw [UInt8.toNat_ofNat']
    omega
theorem Op.bytesL {v : V} {l : List Int} (e : v.list? = some (intl l)) (hr : ∀ n ∈ l, 0 ≤ n ∧ n < 256) (hz : l.length ≤ 100000) : Op1 c (fun w => PySem.call (.type "bytes") [w]) v (.byt (l.map Int.toNat)) := by
  rintro wa h₁ A s E Qs hroom _ hv k
  obtain ⟨a, its, rfl, hl, q⟩ := hv.isList e
  have hlen : its.toList.length = l.length := by have := q.length; simpa [intl] using this.symm
  refine call_bytes_ints (vs := its.toList) (by simpa using hl) (intl_are q) hr (by rw [hlen, sizeLine_eq]; omega) hroom.handled fun h' t tk hk => k _ _ ⟨hk, rfl, rfl⟩ ⟨_, _, rfl, byteArr_nat hr⟩
theorem Op.itemB {x : List Nat} {k y : Nat} {e₁ e₂ : Expr} (hx : x[k]? = some y) (hz : x.length ≤ 100000) (hs : ∀ o i, subscripted e₂ false o i = operate [o, i] (getItem o i) := by intros; rfl) : Op2 c (subscriptTail e₁ e₂) (.byt x) (.int k) (.int y) := by
  rintro wa wb h₁ h₂ A s E Qs _ _ ⟨b, t, rfl, e⟩ ⟨u, rfl⟩ kk
  have hk : k < x.length := (List.getElem?_eq_some_iff.mp hx).1
  have hbl : b.toList.length = x.length := by rw [← e]; simp
  refine tail_any (PySem.W.typeIs_bytes _ _ _) FB.slot_bytes_getitem.lookup ?_ (hs _ _)
  have := getItem_bytes (prog := c.prog) (w := c.w) (A := A) (E := E) (s := s) (t := t) (u := u) (l := b.toList) (i := (k : Int)) (Q := Qs) (by rw [hbl]; omega) (by omega) (by rw [hbl]; omega) ?_
  · simpa using this
  · have e2 : (((b.toList.getD (k : Int).toNat 0).toNat : Nat) : Int) = (y : Int) := by
      rw [← e, List.getElem?_map] at hx
      cases hb : b.toList[k]? with
      | none => rw [hb] at hx; cases hx
      | some z =>
        rw [hb] at hx
        cases hx
        rw [Int.toNat_natCast, List.getD_eq_getElem?_getD, hb]; rfl
    rw [e2]
    exact kk _ _ ⟨Ext.refl _, rfl, rfl⟩ ⟨_, rfl⟩
theorem WS.setitem_bar {x : String} {px spos pos : Pos} {i value : Expr} {Q : Fl → Loc → Prop} {b : List Nat} (hx : ρ x = some (.own (.bar b))) (hl : b.length ≤ 100000)
    (h : WE c f ρ value fun v => WE c f ρ i fun vi => ∃ k y : Nat, vi = .int k ∧ v = .int y ∧ k < b.length ∧ y < 256 ∧ Q .next (upd ρ x (.own (.bar (b.set k y)))))
    (hs : swapsWith value (some (.Subscript (.Name (Str.ofString x) px) i spos)) pos.line f.env = pure false := by rfl)
    (hd : (Str.ofString x == ("__debug__" : Str)) = false := by decide +kernel) :
    WS c f ρ (.Assign [.Subscript (.Name (Str.ofString x) px) i spos] value pos) Q :=
  fun Z s E Qs m ad R k => by
    obtain ⟨w, ha, hw, hbar⟩ := R.var x _ hx
    subst hw
    refine wpAny_Assign_Subscript (h Z s E _ m ad R fun v wv s₁ hv₁ x₁ r₁ => ?_) hs
    refine wpAny_Name (loadName_at R.kind (R.ext x₁.x).ns (ha.mono x₁.x) ?_) hd
    refine hv₁ Z s₁ E _ m ad (R.ext x₁.x) fun vi wi s₂ hq x₂ r₂ => ?_
    obtain ⟨kk, y, rfl, rfl, hk, hy, q⟩ := hq
    obtain ⟨t, rfl⟩ := r₂
    obtain ⟨u, rfl⟩ := r₁
    obtain ⟨bs, hbs, e⟩ := hbar
    have hsz : bs.size = b.length := by rw [← e]; simp
    refine set_ba ((x₁.trans x₂).x _ _ hbs) (by omega) hy (by omega) fun h' hs' hx' => ?_
    refine k _ _ _ _ _ _ q rfl ⟨(x₁.trans x₂).os, (x₁.trans x₂).gens⟩ (mut_rel (R.ext (x₁.trans x₂).x) hx hs' ⟨_, hx', ?_⟩)
    rw [Array.toList_setIfInBounds, List.map_set, e]
    congr 1
    show (UInt8.ofNat y).toNat = y
    rw [UInt8.toNat_ofNat']
    omega
end
end
section
open _root_.PySem _root_.PySem.W _root_.PySem.Calls _root_.PyProof.Rows
set_option linter.unusedVariables false
set_option linter.deprecated false
set_option maxRecDepth 100000
variable {c : Cx} {f : Fm} {ρ : Loc}
noncomputable def WXB (c : Cx) (f : Fm) (ρ : Loc) (t : Sem Flow) (Q : Fl → Loc → Prop) : Prop :=
  ∀ (Z : Addr → Obj → Prop) (s : Shared) (E : Value → Shared → Prop) (Qs : Flow → Shared → Prop) (m : Str → Option Value) (ad : String → Addr), Rel c f Z ρ s.heap m ad →
    (∀ fl ρ' g s' m' ad', Q fl ρ' → FR f.he s'.heap fl g → Og s s' → Rel c f Z ρ' s'.heap m' ad' → Qs g s') → wpB c.M f.A t Qs E s
noncomputable def WSB (c : Cx) (f : Fm) (ρ : Loc) (st : Stmt) (Q : Fl → Loc → Prop) : Prop := WXB c f ρ (exec st f.env) Q
noncomputable def WBB (c : Cx) (f : Fm) (ρ : Loc) (sts : List Stmt) (Q : Fl → Loc → Prop) : Prop := WXB c f ρ (execs sts f.env) Q
theorem WBB.of {sts : List Stmt} {Q : Fl → Loc → Prop} (h : WB c f ρ sts Q) : WBB c f ρ sts Q := fun Z s E Qs m ad R k => wpB.of (h Z s E Qs m ad R k)
theorem WSB.of {st : Stmt} {Q : Fl → Loc → Prop} (h : WS c f ρ st Q) : WSB c f ρ st Q := fun Z s E Qs m ad R k => wpB.of (h Z s E Qs m ad R k)
noncomputable abbrev seqQB (c : Cx) (f : Fm) (rest : List Stmt) (Q : Fl → Loc → Prop) (fl : Fl) (ρ' : Loc) : Prop := match fl with | .next => WBB c f ρ' rest Q | fl => Q fl ρ'
theorem WBB.cons {st : Stmt} {rest : List Stmt} {Q : Fl → Loc → Prop} (h : WSB c f ρ st (seqQB c f rest Q)) : WBB c f ρ (st :: rest) Q :=
  fun Z s E Qs m ad R k => wpB.execs_cons (h Z s E _ m ad R fun fl ρ' g s' m' ad' hq hg og R' => by
    cases fl with
    | next => cases hg; exact hq Z s' E Qs m' ad' R' fun fl ρ'' g s'' m'' ad'' hq hg og' R'' => k fl ρ'' g s'' m'' ad'' hq hg (og.trans og') R''
    | brk => cases hg; exact k _ _ _ _ _ _ hq rfl og R'
    | cont => cases hg; exact k _ _ _ _ _ _ hq rfl og R'
    | ret v => obtain ⟨w, rfl, hw⟩ := hg; exact k _ _ _ _ _ _ hq ⟨w, rfl, hw⟩ og R')
noncomputable def FSB (c : Cx) (n : Nat) (fa : Addr) (vs : List V) (P : V → Prop) : Prop :=
  ∀ (A : Around) (s : Shared) (ws : List Value) (R : Result → Shared → Prop), Room A n → Ext c.h₀ s.heap → All2 (AR s.heap) vs ws →
    (∀ v w s', P v → Sx s s' → VR s.heap s'.heap v w → R (.ok (.ret w)) s') → codeB c.M A (.call (.ref fa) ⟨ws, []⟩) R s
theorem FSB.mono {n : Nat} {fa : Addr} {vs : List V} {P P' : V → Prop} (h : FSB c n fa vs P) (q : ∀ v, P v → P' v) : FSB c n fa vs P' := fun A s ws R hr he ha k => h A s ws R hr he ha fun v w s' hp => k v w s' (q v hp)
theorem keeper_fnM {M : Model} {h : Heap} {P : Params} {fa : Addr} (X : (kk P).In h) (hf : fnIn (kk P) fa = true) : Looks M h (keeperOf (.ref fa)) .frame := by
  unfold fnIn at hf
  split at hf <;> try cases hf
  rename_i oc od fd osl ho
  intro A Q E s kk' q
  unfold keeperOf
  exact wpAny_bind (wpAny_load (kk' _ _ (X _ _ ho)) (wpAny_pure q))
/-- a call of the text's own, in the relative logic -/
noncomputable def WEB (c : Cx) (f : Fm) (ρ : Loc) (e : Expr) (Q : V → Prop) : Prop :=
  ∀ (Z : Addr → Obj → Prop) (s : Shared) (E : Value → Shared → Prop) (Qs : Value → Shared → Prop) (m : Str → Option Value) (ad : String → Addr), Rel c f Z ρ s.heap m ad →
    (∀ v w s', Q v → Sx s s' → VR s.heap s'.heap v w → Qs w s') → wpB c.M f.A (eval e f.env) Qs E s
theorem evalArgsB {fv : Value} {pos : Pos} {a : Expr} {rest : List Expr} {A : Around} {M : Model} {E : Value → Shared → Prop} {s : Shared} {env : Env} {Q : Args → Shared → Prop} (hp : (a :: rest).all plainE = true)
    (h : wpAny M A (spliced (backTo pos (starEach (a :: rest) env))) (fun vs s₁ => Q ⟨vs, []⟩ s₁) E s) : wpAny M A (evalArgs fv true (backTo pos (starEach (a :: rest) env)) []) Q E s := by
  have hpa : plainE a = true := by simp only [List.all_cons, Bool.and_eq_true] at hp; exact hp.1
  rw [starEach_plain hpa] at h ⊢
  exact evalArgs_plain h
theorem star_no {pos : Pos} {env : Env} : ∀ es : List Expr, es.all plainE = true → (backTo pos (starEach es env)).any (·.1) = false := by
  intro es
  induction es with
  | nil => intro _; rfl
  | cons x r ih =>
    intro h
    simp only [List.all_cons, Bool.and_eq_true] at h
    rw [starEach_plain h.1]
    show (false || (backTo pos (starEach r env)).any (·.1)) = false
    rw [ih h.2]; rfl
theorem WEB.call {g : String} {px pos : Pos} {args : List Expr} {Q : V → Prop} {fa : Addr} (H : Here c) (e : nsIn c.K mainGlobals (Str.ofString g) = some (some (.ref fa))) (hf : fnIn (kk c.w.params) fa = true)
    (h : WEs c f ρ args fun vs => (vs.map V.arg).all Ar = true ∧ FSB c f.d fa (vs.map V.arg) Q) (hn : f.sc.names.lookup (Str.ofString g) = some .globalImplicit) (hp : args.all plainE = true := by rfl) (hne : args ≠ [] := by simp)
    (hd : (Str.ofString g == ("__debug__" : Str)) = false := by decide +kernel) : WEB c f ρ (.Call (.Name (Str.ofString g) px) args [] pos) Q :=
  fun Z s E Qs m ad R k => by
    have ok := H.ok
    have b := base_ext R
    have X := ok.k.keeps b
    rw [H.K] at X
    refine wpB.Call_ (Name_function_global (env := f.env) R.kind hn (loadGlobal_global (env := f.env) (ok.g.keeps b) (mg_of ok.k ok.g e) ?_) hd)
    cases args with
    | nil => exact absurd rfl hne
    | cons a rest =>
      refine callWithB (P := fun h => (kk c.w.params).In h) (by rw [star_no _ hp]; rfl) (.inl rfl) (fun h' X' => keeper_fnM X' hf) ?_
      refine wpB.of (evalArgsB hp (wes_spliced hp h Z s E _ m ad R fun vs ws s₁ hq x₁ hv => ?_))
      have X₁ := ok.k.keeps (base_ext (R.ext x₁.x))
      rw [H.K] at X₁
      refine ⟨X₁, wpB.call (hq.2 f.A s₁ ws _ R.room (base_ext (R.ext x₁.x)) (hv.args hq.1) fun v w s' hP x₂ hvr => ?_)⟩
      exact k v w s' hP (x₁.trans x₂) (hvr.since x₁.x)
end
section
open _root_.PySem _root_.PySem.W _root_.PySem.Calls _root_.PyProof.Rows
set_option linter.unusedVariables false
set_option linter.deprecated false
set_option maxRecDepth 100000
section
variable {c : Cx} {f : Fm} {ρ : Loc}
theorem WSB.asg {x : String} {px pos : Pos} {value : Expr} {Q : Fl → Loc → Prop} (h : WEB c f ρ value fun v => ∃ st, v.store = some st ∧ Q .next (upd ρ x st))
    (hk : NameOk f x)
    (hs : swapsWith value (some (.Name (Str.ofString x) px)) pos.line f.env = pure false := by rfl) : WSB c f ρ (.Assign [.Name (Str.ofString x) px] value pos) Q :=
  fun Z s E Qs m ad R k => wpB.Assign_Name (h Z s E _ m ad R fun v w s₁ hq x₁ hv => by
    obtain ⟨st, hst, q⟩ := hq
    exact store_rel R x₁.x hv hst hk fun s' m' ad' og R' => k _ _ _ _ _ _ q rfl (x₁.og.trans og) R') hs
/-- return g(..) == e, of two truth values -/
theorem WSB.ret_eqb {a b : Expr} {pos pos' : Pos} {Q : Fl → Loc → Prop} (h : WEB c f ρ a fun va => ∃ x, va = .bool x ∧ WE c f ρ b fun vb => ∃ y, vb = .bool y ∧ Q (.ret (.bool (x == y))) ρ)
    (hm : behindInMarks .Eq b = false := by with_unfolding_all rfl) : WSB c f ρ (.Return (some (.Compare a [.Eq] [b] pos)) pos') Q :=
  fun Z s E Qs m ad R k => wpB.Return_some (wpB.Compare1 (h Z s E _ m ad R fun va wa s₁ hb x₁ v₁ => by
    obtain ⟨x, rfl, hb⟩ := hb
    refine hb Z s₁ E _ m ad (R.ext x₁.x) fun vb wb s₂ hr x₂ v₂ => ?_
    obtain ⟨y, rfl, q⟩ := hr
    cases v₁
    cases v₂
    exact PyProof.Rows.eq_bool (k _ _ _ _ _ _ q ⟨_, rfl, rfl⟩ (x₁.trans x₂).og (R.ext (x₁.trans x₂).x))) hm)
theorem WEB.bytearray (H : Here c) {px pos : Pos} {e : Expr} {Q : V → Prop} (hn : f.sc.names.lookup (Str.ofString "bytearray") = some .globalImplicit)
    (h : WE c f ρ e fun v => ∃ n : Nat, v = .int n ∧ n ≤ 1000 ∧ Q (.bar (List.replicate n 0))) (hp : plainE e = true := by rfl) : WEB c f ρ (.Call (.Name (Str.ofString "bytearray") px) [e] [] pos) Q :=
  fun Z s E Qs m ad R k => by
    have ok := H.ok
    have bb := bi_bytearray H
    have b := base_ext R
    refine wpB.Call_ (Name_function_global (env := f.env) R.kind hn (loadGlobal_builtin (env := f.env) (ok.g.keeps b) (ns_none_of ok.k ok.g bb.1) (ok.b.keeps b) ((ok.builtins _ bb.2.2.2.2).trans bb.2.1) ?_) bb.2.2.2.1)
    have hp' : ([e] : List Expr).all plainE = true := by simp [hp]
    refine callWithB (P := fun _ => True) (first := []) (by rw [star_no _ hp']; rfl) (.inr rfl) (fun h _ => Looks.of_pure bb.2.2.1) ?_
    have hw : WEs c f ρ [e] fun vs => ∃ n : Nat, vs = [.int n] ∧ n ≤ 1000 ∧ Q (.bar (List.replicate n 0)) := WE.mono h fun v hv => by obtain ⟨n, rfl, h1, h2⟩ := hv; exact ⟨n, rfl, h1, h2⟩
    refine wpB.of (evalArgsB hp' (wes_spliced hp' hw Z s E _ m ad R fun vs ws s₁ hq x₁ hv => ⟨trivial, ?_⟩))
    obtain ⟨n, rfl, hn, q⟩ := hq
    rcases hv with _ | ⟨hv, _, (_ | _)⟩
    obtain ⟨t, rfl⟩ := hv
    refine call_bytearray hn fun h' tk hk hx => ?_
    refine k _ _ _ q (x₁.trans ⟨hk, rfl, rfl⟩) ⟨_, rfl, x₁.x.none (fresh_size _), _, hx, ?_⟩
    simp
theorem FSB.introC {n : Nat} {fa : Addr} {vs : List V} {P : V → Prop} (ok : c.Ok) {name qual : Str} {params : Arguments} {body : List Stmt} {scope : Scope} {dV kV doc pm cdv ct oc : Value} {an od : Option Addr} {osl : Array (Option Value)} {xs : List String}
    (ho : c.K.lookup fa = some ⟨oc, od, .func (fnOf name qual params body scope dV kV doc pm an cdv ct), osl⟩) (hcd : codeIn c.K cdv qual = true)
    (hbind : ∀ ws : List Value, ws.length = vs.length → bindArgs (fnOf name qual params body scope dV kV doc pm an cdv ct) ⟨ws, []⟩ = pure ((xs.map Str.ofString).zip ws))
    (hx : xs.Nodup) (hxl : ∀ x ∈ xs, scope.names.lookup (Str.ofString x) = some .local ∨ (scope.names.lookup (Str.ofString x) = some .cell ∧ (Str.ofString x == ("__classdict__" : Str)) = false)) (hlen : xs.length = vs.length)
    (h : ∀ L qual fa code A he, WBB c (fmC scope L qual fa code A he n) (argsLoc xs vs) body (retQ P))
    (hco : scope.isCoroutine = false := by rfl) (hgen : scope.isGenerator = false := by rfl) (hk : scope.kind = .function := by rfl) : FSB c (n + 1) fa vs P := by
  intro A s ws R hr he ha k
  have hwl := ha.length
  refine codeB_call_function (fd := fnOf name qual params body scope dV kV doc pm an cdv ct) hr.lt (he _ _ (ok.k _ _ ho)) rfl ⟨hco, hgen, rfl⟩ ((codeRec_of ok.k hcd).keeps he) ?_
  rw [hbind ws hwl.symm]
  refine wpAny_pure (wpAny_newFunctionEnv_cells hk (kind_cells hxl) fun env hE s₁ X => ?_)
  subst hE
  refine ⟨(ok.nolimit.keeps he).keeps X.toInCall.keep, codeB_func fun E => ?_⟩
  have R0 := rel_cells (c := c) (qual := qual ++ ".<locals>.") (fa := fa) (code := cdv) hk (room_deeper (env := callEnvC (fnOf name qual params body scope dV kV doc pm an cdv ct) s.heap.objs.size fa) hr) he ha hx hlen hxl X
  have og₁ : Og s s₁ := by obtain ⟨h₁, tk, rfl⟩ := X.toInCall.same; exact ⟨rfl, rfl⟩
  refine h _ _ _ _ _ _ _ s₁ _ _ _ _ R0 fun fl ρ' g s' m' ad' hq hg og R' => ?_
  have hh : Sx s s' := ⟨R'.z, og.os.trans og₁.os, og.gens.trans og₁.gens⟩
  cases fl with
  | next => cases hg; exact k .none .none s' hq hh rfl
  | ret v => obtain ⟨w, rfl, hw⟩ := hg; exact k v w s' hq hh hw
  | brk => exact hq.elim
  | cont => exact hq.elim
end
end
section
open _root_.PySem _root_.PySem.W _root_.PySem.Calls _root_.PyProof.Rows
set_option linter.unusedVariables false
set_option linter.deprecated false
set_option maxRecDepth 100000
section
variable {c : Cx} {f : Fm} {ρ : Loc}
theorem rsize_step {k w : Nat} (hw : 1 ≤ w) : Builtin.Range.rangeSize 0 ((k * w : Nat) : Int) (w : Int) = k := by
  unfold Builtin.Range.rangeSize
  rw [if_pos (by omega)]
  cases k with
  | zero => simp
  | succ k =>
    rw [if_pos (by have : 0 < (k + 1) * w := Nat.mul_pos (Nat.succ_pos _) hw; omega)]
    have e : (((k + 1) * w : Nat) : Int) - 0 - 1 = ((w - 1 : Nat) : Int) + (k : Int) * (w : Int) := by
      have : (k + 1) * w = k * w + w := Nat.succ_mul k w
      push_cast [this]
      omega
    rw [e, Int.add_mul_ediv_right _ _ (by omega)]
    have : ((w - 1 : Nat) : Int) / (w : Int) = 0 := Int.ediv_eq_zero_of_lt (by omega) (by omega)
    rw [this]; push_cast; omega
theorem small_step {b st : Int} (h0 : 0 ≤ b ∧ b ≤ 100000) (h1 : 1 ≤ st ∧ st ≤ 100000) (hs : Builtin.Range.rangeSize 0 b st ≤ 100000) (hs0 : 0 ≤ Builtin.Range.rangeSize 0 b st) : Builtin.Range.small 0 b st = true := by
  unfold Builtin.Range.small
  have hst : st > 0 := by omega
  simp only [Builtin.Range.rangeFitsLong, Bool.and_eq_true, Bool.or_eq_true, decide_eq_true_eq, beq_iff_eq, hst, if_true]
  generalize Builtin.Range.rangeSize 0 b st = z at *
  refine ⟨⟨⟨⟨⟨by omega, by omega⟩, ⟨by omega, by omega⟩⟩, ⟨by omega, by omega⟩⟩, ⟨by omega, by omega⟩⟩, .inr ⟨by omega, by omega⟩⟩
noncomputable def swapRow (data : List Nat) (i w : Nat) (acc : List Nat) (j : Nat) : List Nat := acc.set (i + w - 1 - j) (data.getD (i + j) 0)
noncomputable def swapRows (data : List Nat) (w : Nat) (acc : List Nat) (r : Nat) : List Nat := (List.range w).foldl (swapRow data (r * w) w) acc
noncomputable def swapF (data : List Nat) (w k : Nat) : List Nat := (List.range k).foldl (swapRows data w) (List.replicate (k * w) 0)
theorem swapRow_len (data : List Nat) (i w : Nat) (acc : List Nat) (j : Nat) : (swapRow data i w acc j).length = acc.length := by simp [swapRow]
theorem foldl_len {α : Type} {f : List Nat → α → List Nat} (h : ∀ a x, (f a x).length = a.length) : ∀ (l : List α) (a : List Nat), (l.foldl f a).length = a.length
  | [], _ => rfl
  | x :: l, a => by rw [List.foldl_cons, foldl_len h l, h]
theorem swapRows_len (data : List Nat) (w : Nat) (acc : List Nat) (r : Nat) : (swapRows data w acc r).length = acc.length := foldl_len (swapRow_len data (r * w) w) _ _
theorem range_fold_succ {β : Type} (f : β → Nat → β) (b : β) (n : Nat) : (List.range (n + 1)).foldl f b = f ((List.range n).foldl f b) n := by
  rw [List.range_succ, List.foldl_append]; rfl
/-- range(0, k * w, w) -/
theorem WE.range3 (H : Here c) {px pos : Pos} {e1 e2 e3 : Expr} {Q : V → Prop} (hn : f.sc.names.lookup (Str.ofString "range") = some .globalImplicit)
    (h : WE c f ρ e1 fun v1 => WE c f ρ e2 fun v2 => WE c f ρ e3 fun v3 => ∃ k w : Nat, v1 = .int 0 ∧ v2 = .int (k * w : Nat) ∧ v3 = .int w ∧ 1 ≤ w ∧ w ≤ 1000 ∧ k ≤ 1000 ∧ k * w ≤ 100000 ∧ Q (.rng 0 w k)) (hp : ([e1, e2, e3] : List Expr).all plainE = true := by rfl) :
    WE c f ρ (.Call (.Name (Str.ofString "range") px) [e1, e2, e3] [] pos) Q := by
  refine WE.bic (bi_range H) H.ok hn (WE.mono h fun v1 h1 => WE.mono h1 fun v2 h2 => WE.mono h2 fun v3 h3 => ?_) hp (by simp)
  obtain ⟨k, w, rfl, rfl, rfl, hw, hw2, hk, hkw, q⟩ := h3
  refine ⟨_, ?_, q⟩
  rintro _ h₁ A s E Qs hr hb (_ | ⟨⟨t1, rfl⟩, _, (_ | ⟨⟨t2, rfl⟩, _, (_ | ⟨⟨t3, rfl⟩, _, (_ | _)⟩)⟩)⟩) kk
  refine PySem.call_range_3 (by omega) (kk _ _ ⟨Ext.push _ _, rfl, rfl⟩ ⟨_, rfl, _, _, _, _, IsRange.new .., small_step (by omega) (by omega) (by rw [rsize_step hw]; omega) (by rw [rsize_step hw]; omega), rsize_step hw⟩) (.inl (PyProof.noPylong_small (by omega)))
end
end
section
open _root_.PySem _root_.PySem.W _root_.PySem.Calls _root_.PyProof.Rows
set_option linter.unusedVariables false
set_option linter.unusedSimpArgs false
set_option linter.deprecated false
set_option maxRecDepth 100000
theorem rng_get' {a st : Int} {n i : Nat} {v : V} (h : ((List.range n).map fun (k : Nat) => V.int (a + k * st))[i]? = some v) : i < n ∧ v = .int (a + i * st) := by
  rw [List.getElem?_map] at h
  have hi : i < n := by
    by_cases hi : i < n
    · exact hi
    · rw [List.getElem?_eq_none (by simpa using hi)] at h; cases h
  rw [List.getElem?_range hi] at h
  cases h
  exact ⟨hi, rfl⟩
inductive SwA (data : List Nat) (w k : Nat) (r : Nat) (ρ : Loc) : Prop
  | mk (g1 : ρ "data" = some (.val (.byt data))) (g2 : ρ "width" = some (.val (.int w))) (g3 : ρ "swapped_data" = some (.own (.bar ((List.range r).foldl (swapRows data w) (List.replicate (k * w) 0)))))
inductive SwB (data : List Nat) (w r : Nat) (acc : List Nat) (j : Nat) (ρ : Loc) : Prop
  | mk (g1 : ρ "data" = some (.val (.byt data))) (g2 : ρ "width" = some (.val (.int w))) (g3 : ρ "i" = some (.val (.int (r * w : Nat)))) (g4 : ρ "swapped_data" = some (.own (.bar ((List.range j).foldl (swapRow data (r * w) w) acc))))
set_option maxHeartbeats 1000000 in
theorem byteswap_spec {c : Cx} (H : Here c) (n : Nat) (data : List Nat) (w k : Nat) (hw : 1 ≤ w) (hl : data.length = k * w) (hs : data.length ≤ 1000) (hd : ∀ x ∈ data, x < 256) (hw1 : w ≤ 1000) :
    FSB c (n + 3) 28 [.byt data, .int w] fun v => v = .byt (swapF data w k) := by
  refine' FSB.introC (xs := ["data", "width"]) H.ok ?ho ?hcd ?hbind ?hx ?hxl rfl ?h ?hco ?hgen ?hk
  case ho => rw [H.K]; with_unfolding_all rfl
  case hcd => rw [H.K]; kernel_rfl
  case hbind =>
    intro ws hws
    obtain ⟨w, w', rfl⟩ := len_two hws
    with_unfolding_all rfl
  case hx => decide
  case hxl => decide
  case hco => rfl
  case hgen => rfl
  case hk => rfl
  case h =>
    intro L qual fa code A he
    have hkw : k * w ≤ 1000 := hl ▸ hs
    have hk1 : k ≤ 1000 := Nat.le_trans (Nat.le_mul_of_pos_right k hw) hkw
    refine WBB.cons (WSB.asg (WEB.bytearray H (by kernel_rfl) (WE.b1 (bi_len H) H.ok (by kernel_rfl) (WE.name (by walk_at "lk") ⟨_, Op.lenB (x := data) (by omega), data.length, rfl, hs, _, rfl, ?_⟩))) (by walk_at "nk"))
    refine WBB.of ?_
    refine WB.cons (WS.for_ (WE.range3 H (by kernel_rfl) (WE.int (WE.b1 (bi_len H) H.ok (by kernel_rfl) (WE.name (by walk_at "lk") ⟨_, Op.lenB (x := data) (by omega), WE.name (by walk_at "lk") ?_⟩)))))
    refine ⟨k, w, rfl, by rw [hl], rfl, hw, hw1, hk1, by omega, rfl, _, rfl, ?_⟩
    refine ⟨SwA data w k, ⟨by walk_at "lk", by walk_at "lk", by rw [← hl]; walk_at "lk"⟩, ?_, ?_⟩
    · rintro r v ρ hr ⟨g1, g2, g3⟩
      obtain ⟨hrk, rfl⟩ := rng_get' hr
      have hrw : r * w + w ≤ k * w := by
        have : (r + 1) * w ≤ k * w := Nat.mul_le_mul_right w hrk
        rwa [Nat.succ_mul] at this
      have er : (0 : Int) + (r : Nat) * (w : Nat) = ((r * w : Nat) : Int) := by push_cast; omega
      rw [er]
      refine ⟨_, AsgOk.name rfl (by walk_at "nk"), ?_⟩
      refine WB.cons (WS.for_ (WE.b1 (bi_range H) H.ok (by kernel_rfl) (WE.name (by walk_at "lk") ⟨_, Op.range1 (b := (w : Int)) (by omega), rfl, _, rfl, ?_⟩)))
      rw [Int.toNat_natCast]
      have hb0 := foldl_len (swapRows_len data w) (List.range r) (List.replicate (k * w) 0)
      simp only [List.length_replicate] at hb0
      generalize hacc : (List.range r).foldl (swapRows data w) (List.replicate (k * w) 0) = acc at *
      refine ⟨SwB data w r acc, ⟨by walk_at "lk", by walk_at "lk", by walk_at "lk", by walk_at "lk"⟩, ?_, ?_⟩
      · rintro j v ρ hj ⟨k1, k2, k3, k4⟩
        obtain ⟨hjw, rfl⟩ := rng_get' hj
        refine ⟨_, AsgOk.name rfl (by walk_at "nk"), ?_⟩
        have hb1 := foldl_len (swapRow_len data (r * w) w) (List.range j) acc
        have hin : r * w + j < data.length := by omega
        refine WB.cons (WS.setitem_bar (b := (List.range j).foldl (swapRow data (r * w) w) acc) (by walk_at "lk") (by omega) ?_)
        refine WE.sub (WE.name (by walk_at "lk") (WE.bin (WE.name (by walk_at "lk") (WE.name (by walk_at "lk") ⟨_, Op.add _ _, ?_⟩))))
        have e1 : ((r * w : Nat) : Int) + ((0 : Int) + (j : Nat) * 1) = ((r * w + j : Nat) : Int) := by push_cast; omega
        rw [e1]
        refine ⟨_, Op.itemB (y := data[r * w + j]) (List.getElem?_eq_getElem hin) (by omega), ?_⟩
        refine WE.bin (WE.bin (WE.bin (WE.name (by walk_at "lk") (WE.name (by walk_at "lk") ⟨_, Op.add _ _, WE.int ⟨_, Op.sub _ _, WE.name (by walk_at "lk") ⟨_, Op.sub _ _, ?_⟩⟩⟩))))
        refine ⟨r * w + w - 1 - j, data[r * w + j], ?_, rfl, by omega, hd _ (List.getElem_mem hin), ?_⟩
        · congr 1; push_cast; omega
        · refine WB.nil ⟨by walk_at "lk", by walk_at "lk", by walk_at "lk", ?_⟩
          rw [range_fold_succ]
          unfold swapRow at *
          rw [show data.getD (r * w + j) 0 = data[r * w + j] from by rw [List.getD_eq_getElem?_getD, List.getElem?_eq_getElem hin]; rfl]
          exact upd_self
      · rintro ρ ⟨k1, k2, k3, k4⟩
        refine WB.nil (WB.nil ⟨by walk_at "lk", by walk_at "lk", ?_⟩)
        rw [range_fold_succ, hacc]
        simpa [swapRows] using k4
    · rintro ρ ⟨g1, g2, g3⟩
      simp only [List.length_map, List.length_range] at g3
      refine WB.nil (WB.cons (WS.ret (WE.b1 (bi_bytes H) H.ok (by kernel_rfl) (WE.name (by walk_at "lk") ⟨_, Op.bytesB ?_, rfl⟩))))
      rw [foldl_len (swapRows_len data w)]
      simp; omega
end
section
open _root_.PySem _root_.PySem.W _root_.PySem.Calls _root_.PyProof.Rows
set_option linter.unusedVariables false
variable {c : Cx} {f : Fm} {ρ : Loc}
theorem compLoop_code {R : Result → Shared → Prop} {A : Around} {s : Shared} {elt target iter : Expr} {ifs : List Expr} {scope : Scope} {pos : Pos} {it acc : Value} {env : Env} (I : Nat → Shared → Prop)
    (turn : ∀ n s, I n s → wpAny c.M A (pyNext it) (fun r s₁ => match r with
      | none => R (.ok .next) s₁
      | some v => wpAny c.M A (letOwnedTupleGo target it v) (fun _ s₁' => wpAny c.M A (assign target env v) (fun _ s₂ =>
          wpAny c.M A (forIn ifs true fun c r => if r = true then do let ok ← isTrue c env (eval c env); pure (ForInStep.yield ok) else pure (ForInStep.yield r)) (fun ok s₃ =>
            if ok = true then wpAny c.M A (eval elt env) (fun x s₄ =>
              wpAny c.M A (call (.builtin "list.append") [acc, x]) (fun _ s₅ => ∃ m, m < n ∧ I m s₅) (notedBy c.M A env fun e s' => R (.error e) s') s₄) (notedBy c.M A env fun e s' => R (.error e) s') s₃
            else ∃ m, m < n ∧ I m s₃) (notedBy c.M A env fun e s' => R (.error e) s') s₂) (notedBy c.M A env fun e s' => R (.error e) s') s₁') (notedBy c.M A env fun e s' => R (.error e) s') s₁) (notedBy c.M A env fun e s' => R (.error e) s') s)
    (n : Nat) (h : I n s) :
    codeAny c.M A (.compLoop (.ListComp elt [⟨target, iter, ifs, 0⟩] scope pos) 0 it acc env) R s := by
  refine codeAny_loop rfl I (fun n s hI => ?_) n h
  show wpAny _ A ((compTurn (.ListComp elt [⟨target, iter, ifs, 0⟩] scope pos) 0 it acc env).onRaise (fun x => do noteFrame x env; theTreesLotGoes x)) _ _ s
  refine wpAny_noted ?_
  rw [compTurn_list]
  refine wpAny_bind (wpAny_standAt (wpAny_bind (wpAny_mono (turn n s hI) ?_ fun _ _ e => e)))
  rintro (_ | v) s₁ z
  · exact wpAny_pure z
  · refine wpAny_bind (wpAny_mono z (fun _ s₂ z => wpAny_bind (wpAny_mono z (fun _ s₃ z => wpAny_bind (wpAny_mono z ?_ fun _ _ e => e)) fun _ _ e => e)) fun _ _ e => e)
    rintro (_ | _) s₄ z
    · exact wpAny_pure ⟨rfl, z⟩
    · refine wpAny_bind (wpAny_bind (wpAny_mono z (fun x s₅ z => ?_) fun _ _ e => e))
      refine wpAny_bind (wpAny_mono z (fun _ s₆ z => ?_) fun _ _ e => e)
      exact wpAny_pure (wpAny_pure ⟨rfl, z⟩)
noncomputable def WIfs (c : Cx) (f : Fm) (ρ : Loc) : List Expr → (Bool → Prop) → Prop
  | [], Q => Q true
  | e :: r, Q => WT c f ρ e fun b => if b = true then WIfs c f ρ r Q else Q false
theorem ifs_false {M : Model} {A : Around} {E : Value → Shared → Prop} {s : Shared} {env : Env} {Q : Bool → Shared → Prop} (h : Q false s) : ∀ ifs : List Expr,
    wpAny M A (forIn ifs false fun c r => if r = true then do let ok ← isTrue c env (eval c env); pure (ForInStep.yield ok) else pure (ForInStep.yield r)) Q E s
  | [] => wpAny_pure h
  | e :: r => by
    rw [List.forIn_cons]
    exact wpAny_bind (wpAny_pure (ifs_false h r))
theorem ifs_ok : ∀ {ifs : List Expr} {Q : Bool → Prop}, WIfs c f ρ ifs Q → ∀ {Z : Addr → Obj → Prop} {s : Shared} {E : Value → Shared → Prop} {Qs : Bool → Shared → Prop} {m ad}, Rel c f Z ρ s.heap m ad →
    (∀ b s', Q b → Sx s s' → Qs b s') →
    wpAny c.M f.A (forIn ifs true fun c r => if r = true then do let ok ← isTrue c f.env (eval c f.env); pure (ForInStep.yield ok) else pure (ForInStep.yield r)) Qs E s
  | [], Q, h, Z, s, E, Qs, m, ad, R, k => by rw [List.forIn_nil]; exact wpAny_pure (k true s h (Sx.refl s))
  | e :: r, Q, h, Z, s, E, Qs, m, ad, R, k => by
    rw [List.forIn_cons]
    refine wpAny_bind (show wpAny _ _ (isTrue e f.env (eval e f.env) >>= fun ok => pure (ForInStep.yield ok)) _ _ _ from wpAny_bind (h Z s E _ m ad R fun b s₁ hb x₁ => wpAny_pure ?_))
    cases b with
    | true => rw [if_pos rfl] at hb; exact ifs_ok hb (R.ext x₁.x) fun b s' q x => k b s' q (x₁.trans x)
    | false => rw [if_neg Bool.false_ne_true] at hb; exact ifs_false (k false s₁ hb x₁) r
noncomputable def AsgL (c : Cx) (f : Fm) (t : Expr) (v : V) (ρ ρ' : Loc) : Prop :=
  ∀ (Z : Addr → Obj → Prop) (s : Shared) (w : Value) (E : Value → Shared → Prop) (Qs : Unit → Shared → Prop) (m : Str → Option Value) (ad : String → Addr), Rel c f Z ρ s.heap m ad → ER s.heap v w →
    (∀ s' m' ad', Og s s' → Heap.ExtBut f.L s.heap s'.heap → Rel c f Z ρ' s'.heap m' ad' → Qs () s') → wpAny c.M f.A (assign t f.env w) Qs E s
theorem store_prL {Z : Addr → Obj → Prop} {s : Shared} {m ad} (R : Rel c f Z ρ s.heap m ad) {v : V} {w : Value} (hp : Pr v = true) (hv : PR v w) {x : String} (hk : f.sc.names.lookup (Str.ofString x) = some .local)
    {E : Value → Shared → Prop} {Q : Unit → Shared → Prop} (h : ∀ s' m' ad', Og s s' → Heap.ExtBut f.L s.heap s'.heap → Rel c f Z (upd ρ x (.val v)) s'.heap m' ad' → Q () s') : wpAny c.M f.A (storeName f.env (Str.ofString x) w) Q E s := by
  have hsr : SR f.he s.heap 0 (.val v) w := by
    cases v <;> first | exact hv | exact absurd hp Bool.false_ne_true
  exact store_local R (a := 0) hsr (fun o e => nomatch e) (fun _ _ e => nomatch e) hk fun h' m' hsb R' => h { s with heap := h', toks := s.toks + 1 } _ _ ⟨rfl, rfl⟩ (Heap.SameBut.extBut hsb) R'
theorem ER.pr' {h : Heap} {v : V} {w : Value} (e : Pr v = true) (x : ER h v w) : PR v w := by
  cases v <;> first | exact x | exact Bool.noConfusion (e : false = true)
theorem AsgL.name {x : String} {px : Pos} {v : V} (hp : Pr v = true) (hk : f.sc.names.lookup (Str.ofString x) = some .local) : AsgL c f (.Name (Str.ofString x) px) v ρ (upd ρ x (.val v)) :=
  fun _ _ _ _ _ _ _ R hv k => wpAny_assign_Name (store_prL R hp (hv.pr' hp) hk k)
theorem order_prL {es : List Expr} {xs : List String} (hn : NamesAre es xs) : ∀ {vs : List V} {ws : List Value} {ρ : Loc}, (∀ x ∈ xs, f.sc.names.lookup (Str.ofString x) = some .local) → vs.all Pr = true → All2 PR vs ws → xs.length = vs.length →
    ∀ {Z : Addr → Obj → Prop} {s : Shared} {E : Value → Shared → Prop} {Q : Unit → Shared → Prop} {m ad}, Rel c f Z ρ s.heap m ad → (∀ s' m' ad', Og s s' → Heap.ExtBut f.L s.heap s'.heap → Rel c f Z (updN ρ xs vs) s'.heap m' ad' → Q () s') →
      wpAny c.M f.A (assignInOrder ((assignEach es f.env).map (·.2)) ws) Q E s := by
  induction hn with
  | nil =>
    intro vs ws ρ _ _ _ _ Z s E Q m ad R k
    exact wpAny_pure (k s m ad (.refl _) (fun _ _ _ e => e) R)
  | @cons y p es ys _ ih =>
    intro vs ws ρ hk hp al hl Z s E Q m ad R k
    cases vs with
    | nil => exact absurd hl (Nat.succ_ne_zero _)
    | cons v vs =>
      cases ws with
      | nil => exact al.elim
      | cons w ws => ?_
      obtain ⟨h1, h2⟩ := al
      rw [List.all_cons, Bool.and_eq_true] at hp
      show wpAny c.M f.A (holding ws (assign (.Name (Str.ofString y) p) f.env w) >>= fun _ => assignInOrder ((assignEach es f.env).map (·.2)) ws) Q E s
      refine wpAny_bind (wpAny_holding (wpAny_assign_Name (store_prL R hp.1 h1 (hk y (.head _)) fun s' m' ad' og x R' => ?_)))
      exact ih (fun x hx => hk x (.tail _ hx)) hp.2 h2 (by simpa using hl) R' fun s'' m'' ad'' og' x' R'' => k s'' m'' ad'' (og.trans og') (fun b o hb e => x' b o hb (x b o hb e)) R''
theorem AsgL.tup {es : List Expr} {n : Nat} {tp : Pos} {xs : List String} {vs : List V} (hn : NamesAre es xs) (hk : ∀ x ∈ xs, f.sc.names.lookup (Str.ofString x) = some .local) (hp : vs.all Pr = true) (hl : xs.length = vs.length) :
    AsgL c f (.Tuple es n tp) (.tup vs) ρ (updN ρ xs vs) :=
  fun Z s w E Qs m ad R hv k => by
    obtain ⟨a, its, rfl, ht, al⟩ := hv
    have hsz : its.size = xs.length := by rw [hl, al.length]; simp
    obtain ⟨l1, l2⟩ := names_len (env := f.env) hn
    refine wpAny_assign_Tuple R.room.handled (items := its) (by obtain ⟨o, ho, hc, n, hd⟩ := ht; exact ⟨o, ho, hc, n, hd⟩) (by rw [l1, hsz]) l2 fun h' hs' => ?_
    have x₀ : Ext s.heap h' := fun b o e => hs' b o (Nat.ne_of_lt (Heap.lt_size e)) e
    exact order_prL hn hk hp al hl (s := { s with heap := h' }) (R.ext x₀) fun s' m' ad' og x R' => k s' m' ad' ⟨og.os, og.gens⟩ (fun b o hb e => x b o hb (x₀ b o e)) R'
/-- an object that the frame does not hold turns -/
theorem Rel.but {Z : Addr → Obj → Prop} {h h' : Heap} {m ad} (R : Rel c f Z ρ h m ad) {D : Addr} (hs : Heap.ExtBut D h h') (hz : ∀ o, ¬ Z D o) (hL : f.L ≠ D) (hc : ∀ x a v, f.cells.lookup x = some a → h.IsCell a v → a ≠ D) (ht : ∀ a its, IsTup h a its → a ≠ D)
    (hown : ∀ y o, ρ y = some (.own o) → ad y ≠ D) (hat : ∀ y b l, ρ y = some (.at b l) → b ≠ D) : Rel c f Z ρ h' m ad where
  kind := R.kind
  room := R.room
  base := R.base
  entry := R.entry
  z := fun b o z => but_get hs (fun e => hz o (e ▸ z)) (R.z b o z)
  ns := R.ns.at' fun o e => but_get hs hL e
  zL := R.zL
  zC := R.zC
  cell := fun y hy => let ⟨a, v, e, hcell⟩ := R.cell y hy; ⟨a, v, e, cell_but hs (hc _ _ _ e hcell) hcell⟩
  cinj := R.cinj
  own := R.own
  pin := R.pin
  var := fun y s e => by
    obtain ⟨w, ha, hsr⟩ := R.var y s e
    refine ⟨w, ha.but hs fun a v e h => hc _ _ _ e h, hsr.but hs ht (fun b o e q => hz o (q ▸ R.entry b o e)) (fun o e' => hown y o (e' ▸ e)) fun b l e' => hat y b l (e' ▸ e)⟩
/-- less is known -/
theorem Rel.less {Z : Addr → Obj → Prop} {h : Heap} {m ad} {ρ' : Loc} (R : Rel c f Z ρ' h m ad) (le : ∀ x st, ρ x = some st → ρ' x = some st) : Rel c f Z ρ h m ad where
  kind := R.kind
  room := R.room
  base := R.base
  entry := R.entry
  z := R.z
  ns := R.ns
  zL := R.zL
  zC := R.zC
  cell := R.cell
  cinj := R.cinj
  own := fun x o e => let ⟨g1, g2, g3, g4⟩ := R.own x o (le _ _ e); ⟨g1, g2, fun y o' e' => g3 y o' (le _ _ e'), fun y b l e' => g4 y b l (le _ _ e')⟩
  pin := fun y z b l l' e e' => R.pin y z b l l' (le _ _ e) (le _ _ e')
  var := fun x st e => R.var x st (le _ _ e)
end
section
open _root_.PySem _root_.PySem.W _root_.PySem.Calls _root_.PyProof.Rows
set_option linter.unusedVariables false
variable {c : Cx} {f : Fm} {ρ : Loc}
/-- the frame of a comprehension -/
noncomputable def compFm (scope : Scope) (f : Fm) (cl : List (Str × Addr)) (C : Addr) (he : Heap) : Fm :=
  { sc := relabel scope f.env, L := C, cells := cl, qual := f.qual, func := none, code := f.code, frame := f.frame, A := f.A, he := he, d := f.d }
/-- the captured cells -/
noncomputable def closOf (cells : List (Str × Addr)) : List (Str × NameKind) → List (Str × Addr) → List (Str × Addr)
  | [], acc => acc
  | (n, k) :: r, acc => if k == .free then (match cells.lookup n with | some a => closOf cells r ((n, a) :: acc) | none => closOf cells r acc) else closOf cells r acc
theorem closOf_acc (cells : List (Str × Addr)) : ∀ (names : List (Str × NameKind)) (acc : List (Str × Addr)) (x : Str) (a : Addr), (closOf cells names acc).lookup x = some a → acc.lookup x = some a ∨ cells.lookup x = some a
  | [], acc, x, a, e => .inl e
  | (n, k) :: r, acc, x, a, e => by
    unfold closOf at e
    split at e
    · split at e
      · rename_i a' ha
        rcases closOf_acc cells r _ x a e with h | h
        · rw [List.lookup_cons] at h
          split at h
          · rename_i q; cases h; rw [eq_of_beq q]; exact .inr ha
          · exact .inl h
        · exact .inr h
      · exact closOf_acc cells r _ x a e
    · exact closOf_acc cells r _ x a e
theorem closOf_keep (cells : List (Str × Addr)) : ∀ (names : List (Str × NameKind)) (acc : List (Str × Addr)) (x : Str), (∃ a, acc.lookup x = some a) → ∃ a, (closOf cells names acc).lookup x = some a
  | [], acc, x, e => e
  | (n, k) :: r, acc, x, e => by
    unfold closOf
    split
    · split
      · rename_i a' ha
        refine closOf_keep cells r _ x ?_
        rw [List.lookup_cons]
        split
        · exact ⟨_, rfl⟩
        · exact e
      · exact closOf_keep cells r _ x e
    · exact closOf_keep cells r _ x e
theorem closOf_has (cells : List (Str × Addr)) : ∀ (names : List (Str × NameKind)) (acc : List (Str × Addr)) (x : Str), (x, NameKind.free) ∈ names → (∃ a, cells.lookup x = some a) → ∃ a, (closOf cells names acc).lookup x = some a
  | (n, k) :: r, acc, x, h, e => by
    obtain ⟨a, ha⟩ := e
    unfold closOf
    rcases List.mem_cons.mp h with q | h
    · cases q
      rw [if_pos (by rfl), ha]
      refine closOf_keep cells r _ _ ⟨a, ?_⟩
      rw [List.lookup_cons]; simp
    · split
      · split <;> exact closOf_has cells r _ x h ⟨a, ha⟩
      · exact closOf_has cells r _ x h ⟨a, ha⟩
theorem closureFor_eq {scope : Scope} {env : Env} (h : ∀ y ∈ scope.names, y.2 = .free → ∃ a, env.cells.lookup y.1 = some a) : closureFor scope env = pure (closOf env.cells scope.names []) := by
  have key : ∀ (names : List (Str × NameKind)) (acc : List (Str × Addr)), (∀ y ∈ names, y.2 = .free → ∃ a, env.cells.lookup y.1 = some a) →
      (forIn names acc (fun (x : Str × NameKind) (r : List (Str × Addr)) => if (x.2 == NameKind.free) = true then cellOf env x.1 >>= fun a => pure (ForInStep.yield ((x.1, a) :: r)) else pure (ForInStep.yield r)) : Sem (List (Str × Addr))) = pure (closOf env.cells names acc) := by
    intro names
    induction names with
    | nil => intro acc _; rfl
    | cons y r ih =>
      intro acc hh
      obtain ⟨n, k⟩ := y
      rw [List.forIn_cons]
      unfold closOf
      have hr := ih
      by_cases hk : (k == NameKind.free) = true
      · obtain ⟨a, ha⟩ := hh _ (.head _) (eq_of_beq hk)
        have hc : cellOf env n = pure a := by unfold cellOf; rw [show env.cells.lookup n = some a from ha]
        rw [if_pos hk, if_pos hk, hc, show env.cells.lookup n = some a from ha]
        exact ih _ fun y hy => hh y (.tail _ hy)
      · rw [if_neg hk, if_neg hk]
        exact ih _ fun y hy => hh y (.tail _ hy)
  unfold closureFor
  show (do let r ← forIn scope.names _ _; pure r) = _
  have := key scope.names [] h
  simp only [bind_pure]
  exact this
end
section
open _root_.PySem _root_.PySem.W _root_.PySem.Calls _root_.PyProof.Rows
set_option linter.unusedVariables false
variable {c : Cx} {f : Fm} {ρ : Loc}
noncomputable def capLoc (caps : List String) (ρ : Loc) : Loc := fun x => if x ∈ caps then (ρ x).map fun st => .val st.get else none
theorem capLoc_some {caps : List String} {x : String} {st : S} (h : capLoc caps ρ x = some st) : x ∈ caps ∧ ∃ st₀, ρ x = some st₀ ∧ st = .val st₀.get := by
  unfold capLoc at h
  split at h
  · rename_i hx
    cases e : ρ x with
    | none => rw [e] at h; cases h
    | some st₀ => rw [e] at h; cases h; exact ⟨hx, st₀, rfl, rfl⟩
  · cases h
theorem capLoc_get {caps : List String} {x : String} {st : S} (hx : x ∈ caps) (h : ρ x = some st) : capLoc caps ρ x = some (.val st.get) := by
  unfold capLoc; rw [if_pos hx, h]; rfl
theorem cap_upd {caps : List String} {y : String} {s : S} (h : y ∉ caps) : ∀ x st, capLoc caps ρ x = some st → upd (capLoc caps ρ) y s x = some st := fun x st e => by
  have hm : x ∈ caps := (capLoc_some e).1
  have hne : x ≠ y := by rintro rfl; exact h hm
  rw [upd_ne hne]; exact e
theorem relabel_cell {scope : Scope} {env : Env} (hn : ∀ y ∈ scope.names, y.2 ≠ .cell) {x : Str} (h : (relabel scope env).names.lookup x = some .cell) : (x, NameKind.free) ∈ scope.names ∧ env.kindOf x = some .cell := by
  unfold relabel at h
  have key : ∀ names : List (Str × NameKind), (∀ y ∈ names, y.2 ≠ .cell) → (names.map fun (n, k) => if (k == .free && env.scope.kind == .function && env.kindOf n == some .cell) then (n, NameKind.cell) else (n, k)).lookup x = some .cell → (x, NameKind.free) ∈ names ∧ env.kindOf x = some .cell := by
    intro names
    induction names with
    | nil => intro _ e; cases e
    | cons y r ih =>
      obtain ⟨n, k⟩ := y
      intro hh e
      rw [List.map_cons] at e
      dsimp only at e
      by_cases hk : (k == .free && env.scope.kind == .function && env.kindOf n == some .cell) = true
      · rw [if_pos hk, List.lookup_cons] at e
        simp only [Bool.and_eq_true, beq_iff_eq] at hk
        split at e
        · rename_i q
          rw [eq_of_beq q]
          exact ⟨by rw [← hk.1.1]; exact .head _, hk.2⟩
        · obtain ⟨a, b⟩ := ih (fun y hy => hh y (.tail _ hy)) e
          exact ⟨.tail _ a, b⟩
      · rw [if_neg hk, List.lookup_cons] at e
        split at e
        · cases e; exact absurd rfl (hh _ (.head _))
        · obtain ⟨a, b⟩ := ih (fun y hy => hh y (.tail _ hy)) e
          exact ⟨.tail _ a, b⟩
  exact key _ hn h
/-- what the text of a comprehension must have -/
structure CompS (f : Fm) (scope : Scope) (caps : List String) : Prop where
  cell : ∀ y ∈ scope.names, y.2 ≠ .cell
  kind : scope.kind = .function
  names : ∀ y ∈ scope.names, y.2 = .local → scope.names.lookup y.1 = some .local
  free : ∀ y ∈ scope.names, y.2 = .free → f.sc.names.lookup y.1 = some .cell
  caps : ∀ x ∈ caps, (relabel scope f.env).names.lookup (Str.ofString x) = some .cell ∧ (Str.ofString x == ("__classdict__" : Str)) = false
/-- one turn -/
noncomputable def CompTurn (c : Cx) (f' : Fm) (ρc : Loc) (target elt : Expr) (ifs : List Expr) (v : V) (y : Option V) : Prop :=
  ∃ ρ', AsgL c f' target v ρc ρ' ∧ (∀ x st, ρc x = some st → ρ' x = some st) ∧ WIfs c f' ρ' ifs fun b => if b = true then WE c f' ρ' elt (fun u => y = some u ∧ Pr u = true) else y = none
theorem closOf_mem (cells : List (Str × Addr)) : ∀ (names : List (Str × NameKind)) (acc : List (Str × Addr)) (p : Str × Addr), p ∈ closOf cells names acc → p ∈ acc ∨ (cells.lookup p.1 = some p.2 ∧ (p.1, NameKind.free) ∈ names)
  | [], acc, p, h => .inl h
  | (n, k) :: r, acc, p, h => by
    unfold closOf at h
    split at h
    · rename_i hk
      split at h
      · rename_i a ha
        rcases closOf_mem cells r _ p h with q | ⟨q1, q2⟩
        · rcases List.mem_cons.mp q with q | q
          · subst q; exact .inr ⟨ha, by rw [← eq_of_beq hk]; exact .head _⟩
          · exact .inl q
        · exact .inr ⟨q1, .tail _ q2⟩
      · exact (closOf_mem cells r _ p h).imp id fun ⟨a, b⟩ => ⟨a, .tail _ b⟩
    · exact (closOf_mem cells r _ p h).imp id fun ⟨a, b⟩ => ⟨a, .tail _ b⟩
theorem comp_rel {scope : Scope} {caps : List String} (S : CompS f scope caps) {Z : Addr → Obj → Prop} {h : Heap} {m ad} (R : Rel c f Z ρ h m ad) (hAr : ∀ x ∈ caps, ∀ st, ρ x = some st → Ar st.get = true)
    {I C : Addr} (hI : Fields h I) (hIz : ∀ o, ¬ Z I o) (hC : h.get? C = none) {h' : Heap} (x : Ext h h') {m' : Str → Option Value} (hn : h'.Ns C m') :
    Rel c (compFm scope f (closOf f.cells scope.names []) C (hideAll h (I :: (closOf f.cells scope.names []).map (·.2)))) (fun b o => (hideAll h (I :: (closOf f.cells scope.names []).map (·.2))).get? b = some o) (capLoc caps ρ) h' m' (fun _ => 0) := by
  have cl : ∀ x a, (closOf f.cells scope.names []).lookup x = some a → f.cells.lookup x = some a := fun x a e => (closOf_acc f.cells _ [] x a e).resolve_left (fun q => nomatch q)
  have clm : ∀ b, b ∈ (closOf f.cells scope.names []).map (·.2) → ∃ x, f.cells.lookup x = some b ∧ f.sc.names.lookup x = some .cell := by
    intro b hm
    obtain ⟨p, hp, rfl⟩ := List.mem_map.mp hm
    rcases closOf_mem f.cells _ [] p hp with q | ⟨q1, q2⟩
    · cases q
    · exact ⟨p.1, q1, S.free _ q2 rfl⟩
  have keep : ∀ b o, h.get? b = some o → b ≠ I → (∀ x, f.sc.names.lookup x = some .cell → f.cells.lookup x ≠ some b) → (hideAll h (I :: (closOf f.cells scope.names []).map (·.2))).get? b = some o := by
    intro b o e h1 h2
    refine hideAll_get _ e fun hm => ?_
    rcases List.mem_cons.mp hm with q | hm
    · exact h1 q
    · obtain ⟨x, e1, e2⟩ := clm b hm
      exact h2 x e2 e1
  have lk : ∀ x, (relabel scope f.env).names.lookup x = some .cell → f.sc.names.lookup x = some .cell ∧ ∃ a, (closOf f.cells scope.names []).lookup x = some a := by
    intro x e
    obtain ⟨e1, e2⟩ := relabel_cell S.cell e
    have e3 := S.free _ e1 rfl
    obtain ⟨a, v, ha, _⟩ := R.cell x e3
    exact ⟨e3, closOf_has f.cells _ [] x e1 ⟨a, ha⟩⟩
  refine ⟨S.kind, ⟨R.room.handled, R.room.depth, R.room.units⟩, fun b o e => ?_, fun b o e => e, fun b o e => x b o (of_hideAll _ e), hn, fun o e => ?_, fun y a e1 e2 o e => ?_, fun y e => ?_, fun y z a e1 e2 => R.cinj y z a (cl _ _ e1) (cl _ _ e2), fun y st e => ?_, fun y o e => ?_, fun y z b l l' e => ?_⟩
  · have hz := R.entry b o (R.base b o e)
    exact keep b o (R.z b o hz) (fun q => hIz o (q ▸ hz)) fun y h1 h2 => R.zC y b h1 h2 o hz
  · have := of_hideAll _ e
    have e4 : h.get? C = some o := this
    rw [hC] at e4; cases e4
  · have hm : a ∈ (I :: (closOf f.cells scope.names []).map (·.2)) := .tail _ (List.mem_map_of_mem (f := (·.2)) (mem_of_lookup e2))
    have := hideAll_none (h := h) _ hm
    rw [this] at e; cases e
  · obtain ⟨e1, a, e2⟩ := lk y e
    obtain ⟨a', v, e3, hc⟩ := R.cell y e1
    rw [cl _ _ e2] at e3; cases e3
    exact ⟨a, v, e2, let ⟨o, ho, hd⟩ := hc; ⟨o, x _ _ ho, hd⟩⟩
  · obtain ⟨hy, st₀, e1, rfl⟩ := capLoc_some e
    obtain ⟨w, ha, hsr⟩ := R.var y st₀ e1
    obtain ⟨c1, c2⟩ := S.caps y hy
    obtain ⟨c3, a, c4⟩ := lk _ c1
    refine ⟨w, .inr ⟨.inl c1, c2, a, c4, ?_⟩, ?_⟩
    · rcases ha with ⟨q, _⟩ | ⟨_, _, a', q, o, ho, hd⟩
      · rw [c3] at q; cases q
      · rw [cl _ _ c4] at q; cases q
        exact ⟨o, x _ _ ho, hd⟩
    · have hv : VR h h' st₀.get w := (hsr.mono x).get
      have hA := hAr y hy st₀ e1
      revert hv hA
      generalize hg : st₀.get = v
      intro hv hA
      cases v <;> first | exact hv | cases hA | skip
      rename_i l
      obtain ⟨b, its, rfl, hl, hal⟩ := hv
      refine ⟨⟨b, ?_⟩, ⟨b, its, rfl, hl, hal⟩⟩
      have hv₀ : VR h h st₀.get (.ref b) := hsr.get
      rw [hg] at hv₀
      obtain ⟨b', its', e', ⟨o, ho, r⟩, _⟩ := id hv₀
      cases e'
      refine ⟨o, rfl, keep b o ho (hI.lst hv₀) fun z h1 h2 => ?_⟩
      obtain ⟨a', v', h3, hc⟩ := R.cell z h1
      rw [h2] at h3; cases h3
      exact not_lst_cell hc hv₀ rfl
  · obtain ⟨_, st₀, _, q⟩ := capLoc_some e; cases q
  · obtain ⟨_, st₀, _, q⟩ := capLoc_some e; cases q
end
section
open _root_.PySem _root_.PySem.W _root_.PySem.Calls _root_.PyProof.Rows
set_option linter.unusedVariables false
variable {c : Cx} {f : Fm} {ρ : Loc}
theorem all2_snoc {α β : Type} {R : α → β → Prop} {l : List α} {m : List β} {a : α} {b : β} (h : All2 R l m) (h' : R a b) : All2 R (l ++ [a]) (m ++ [b]) := h.append ⟨h', trivial⟩
theorem comp_loop {elt target iter : Expr} {ifs : List Expr} {scope : Scope} {pos : Pos} {f' : Fm} {ρc : Loc} {items : List V} {g : V → Option V} {Z : Addr → Obj → Prop} {h₀ : Heap} {s : Shared} {m ad} {D I : Addr} {src : Option Addr}
    {P : Nat → Value → Prop} {St : Nat → Heap → Prop} (W : It c I src items h₀ P St) (hsz : items.length ≤ 100000) (R : Rel c f' Z ρc s.heap m ad) (hZI : ∀ o, ¬ Z I o) (hZD : ∀ o, ¬ Z D o) (x₀ : Ext h₀ s.heap)
    (hDf : h₀.get? D = none) (hLf : h₀.get? f'.L = none) (hDL : D ≠ f'.L) (hI₀ : ∃ o, h₀.get? I = some o) (hsrc : ∀ a, src = some a → ∃ o, h₀.get? a = some o)
    (hcell : ∀ x a, f'.cells.lookup x = some a → ∃ o, h₀.get? a = some o) (hvals : ∀ y st, ρc y = some st → ∃ v, st = .val v) (hacc : s.heap.PlainList D #[])
    (turn : ∀ (i : Nat) (v : V), items[i]? = some v → CompTurn c f' ρc target elt ifs v (g v)) {RR : Result → Shared → Prop}
    (k : ∀ s' m' ys, Og s s' → s'.heap.Ns f'.L m' → s'.heap.PlainList D ys → All2 PR (items.filterMap g) ys.toList → (∀ b o, b ≠ I → h₀.get? b = some o → s'.heap.get? b = some o) → RR (.ok .next) s') :
    codeAny c.M f'.A (.compLoop (.ListComp elt [⟨target, iter, ifs, 0⟩] scope pos) 0 (.ref I) (.ref D) f'.env) RR s := by
  have WW := W.walks f'.A R.room.handled
  have hDI : D ≠ I := by rintro rfl; obtain ⟨o, ho⟩ := hI₀; rw [hDf] at ho; cases ho
  have hLI : f'.L ≠ I := by rintro e; obtain ⟨o, ho⟩ := hI₀; rw [e] at hLf; rw [hLf] at ho; cases ho
  have fpD : ∀ b ∈ I :: src.toList, b ≠ D ∧ b ≠ f'.L := by
    intro b hb
    have : ∃ o, h₀.get? b = some o := by
      rcases List.mem_cons.mp hb with rfl | hb
      · exact hI₀
      · exact hsrc b (by simpa using hb)
    obtain ⟨o, ho⟩ := this
    exact ⟨fun e => (by rw [e, hDf] at ho; cases ho), fun e => (by rw [e, hLf] at ho; cases ho)⟩
  have st₀ : St 0 s.heap := WW.frame _ _ _ W.start fun b _ o e => x₀ b o e
  refine compLoop_code (fun n s' => ∃ i m₁ ad₁ ys, n = items.length - i ∧ i ≤ items.length ∧ Rel c f' Z ρc s'.heap m₁ ad₁ ∧ Og s s' ∧ St i s'.heap ∧ s'.heap.PlainList D ys ∧ All2 PR ((items.take i).filterMap g) ys.toList ∧ ys.size ≤ i ∧
      ∀ b o, b ≠ I → h₀.get? b = some o → s'.heap.get? b = some o) ?_ items.length ⟨0, m, ad, #[], rfl, Nat.zero_le _, R, .refl _, st₀, hacc, trivial, Nat.le_refl _, fun b o _ e => x₀ b o e⟩
  rintro n s₁ ⟨i, m₁, ad₁, ys, rfl, hi, R₁, og₁, st, hpl, hal, hys, hkeep⟩
  have hI := W.field _ _ st
  by_cases hlt : i < items.length
  · refine WW.item i s₁ _ _ hlt st fun v h' tk hp st' hk => ?_
    have hs : Heap.ExtBut I s₁.heap h' := fun b o hb e => hk b o (by simpa using hb) e
    have R₂ := R₁.turn hs hI hZI
    have hI' := W.field _ _ st'
    obtain ⟨vv, hvi, hev⟩ := W.item i v hlt hp
    have hkeep₂ : ∀ b o, b ≠ I → h₀.get? b = some o → h'.get? b = some o := fun b o hb e => hs b o hb (hkeep b o hb e)
    refine letGo_ok hI' ?_
    obtain ⟨ρ', ha, hle, hb⟩ := turn i vv hvi
    have hvr : ER h' vv v := by
      cases vv <;> first | exact hev | skip
      obtain ⟨a, its, e, ⟨o, ho, r⟩, q⟩ := hev
      exact ⟨a, its, e, ⟨o, hkeep₂ a o (Fields.tup (W.field _ _ W.start) ⟨o, ho, r⟩) ho, r⟩, q⟩
    refine ha Z { s₁ with heap := h', toks := tk } v _ _ _ _ R₂ hvr fun s₂ m₂ ad₂ og₂ x₂ R₃ => ?_
    refine ifs_ok hb R₃ fun b s₃ hb x₃ => ?_
    have R₃' := R₃.ext x₃.x
    have og₃ : Og s s₃ := ⟨(og₂.trans x₃.og).os.trans og₁.os, (og₂.trans x₃.og).gens.trans og₁.gens⟩
    have hpl₃ : s₃.heap.PlainList D ys := by
      obtain ⟨n, ho⟩ := hpl
      exact ⟨n, x₃.x _ _ (x₂ D _ hDL (hs D _ hDI ho))⟩
    have hkeep₃ : ∀ b o, b ≠ I → h₀.get? b = some o → s₃.heap.get? b = some o := fun b o hb e => x₃.x _ _ (x₂ b o (fun q => by rw [q, hLf] at e; cases e) (hkeep₂ b o hb e))
    have st₃ : St (i + 1) s₃.heap := WW.frame _ _ _ st' fun b hb o e => x₃.x _ _ (x₂ b o (fpD b hb).2 e)
    have htake : (items.take (i + 1)).filterMap g = (items.take i).filterMap g ++ (g vv).toList := by
      rw [List.take_add_one, hvi, List.filterMap_append]
      congr 1 <;> (cases hg : g vv <;> simp [hg])
    cases b with
    | false =>
      rw [if_neg Bool.false_ne_true] at hb ⊢
      refine ⟨items.length - (i + 1), by omega, i + 1, m₂, ad₂, ys, rfl, hlt, R₃'.less hle, og₃, st₃, hpl₃, ?_, Nat.le_succ_of_le hys, hkeep₃⟩
      rw [htake, hb]; simpa using hal
    | true =>
      rw [if_pos rfl] at hb ⊢
      refine hb Z s₃ _ _ _ _ R₃' fun u w s₄ hu x₄ hv₄ => ?_
      obtain ⟨hgu, hpu⟩ := hu
      have hpl₄ : s₄.heap.PlainList D ys := by
        obtain ⟨n, ho⟩ := hpl₃
        exact ⟨n, x₄.x _ _ ho⟩
      refine wpAny_list_append_plain hpl₄ (fun h₅ hl₅ hs₅ => ?_) (by rw [sizeLine_eq]; omega)
      have hb₅ : Heap.ExtBut D s₄.heap h₅ := hs₅.extBut
      have R₄ := R₃'.ext x₄.x
      refine ⟨items.length - (i + 1), by omega, i + 1, m₂, ad₂, ys.push w, rfl, hlt, ?_, ⟨x₄.os.trans og₃.os, x₄.gens.trans og₃.gens⟩, ?_, hl₅, ?_, by simpa using hys, ?_⟩
      · refine (R₄.less hle).but hb₅ hZD (Ne.symm hDL) (fun x a _ e _ q => ?_) (fun a its t q => ?_) (fun y o e => ?_) fun y b l e => ?_
        · obtain ⟨o, ho⟩ := hcell x a e
          rw [q, hDf] at ho; cases ho
        · subst q
          obtain ⟨n, hp⟩ := hpl₄
          obtain ⟨o, ho, hc, _⟩ := t
          rw [hp] at ho; cases ho; simp at hc
        · obtain ⟨v, q⟩ := hvals y _ e; cases q
        · obtain ⟨v, q⟩ := hvals y _ e; cases q
      · exact WW.frame _ _ _ st₃ fun b hb o e => hb₅ b o (fpD b hb).1 (x₄.x _ _ e)
      · rw [htake, hgu, Array.toList_push]
        exact all2_snoc hal (hv₄.pr hpu)
      · exact fun b o hb e => hb₅ b o (fun q => by rw [q, hDf] at e; cases e) (x₄.x _ _ (hkeep₃ b o hb e))
  · have hi' : i = items.length := by omega
    subst hi'
    refine WW.done s₁ _ _ st fun h' tk hk => ?_
    have hs : Heap.ExtBut I s₁.heap h' := fun b o hb e => hk b o (by simpa using hb) e
    refine k _ _ ys ⟨og₁.os, og₁.gens⟩ (R₁.turn hs hI hZI).ns ?_ (by simpa using hal) fun b o hb e => hs b o hb (hkeep b o hb e)
    obtain ⟨n, ho⟩ := hpl
    exact ⟨n, hs D _ hDI ho⟩
end
section
open _root_.PySem _root_.PySem.W _root_.PySem.Calls _root_.PyProof.Rows
set_option linter.unusedVariables false
variable {c : Cx} {f : Fm} {ρ : Loc}
theorem comp_block {elt target iter : Expr} {ifs : List Expr} {scope : Scope} {pos : Pos} {caps : List String} {items : List V} {g : V → Option V} {Z : Addr → Obj → Prop} {s₂ : Shared} {m ad} {I : Addr} {src : Option Addr}
    {P : Nat → Value → Prop} {St : Nat → Heap → Prop} {E : Value → Shared → Prop} (W : It c I src items s₂.heap P St) (hsz : items.length ≤ 100000) (R : Rel c f Z ρ s₂.heap m ad) (S : CompS f scope caps) (hIz : ∀ o, ¬ Z I o)
    (hAr : ∀ x ∈ caps, ∀ st, ρ x = some st → Ar st.get = true) (hsrc : ∀ a, src = some a → ∃ o, s₂.heap.get? a = some o)
    (turn : ∀ cl C he (i : Nat) (v : V), items[i]? = some v → CompTurn c (compFm scope f cl C he) (capLoc caps ρ) target elt ifs v (g v)) {RR : Value → Addr → Result → Shared → Prop}
    (k : ∀ D C s' m' ys, s₂.heap.get? D = none → s₂.heap.get? C = none → D ≠ C → Og s₂ s' → s'.heap.Ns C m' → s'.heap.PlainList D ys → All2 PR (items.filterMap g) ys.toList → (∀ b o, b ≠ I → s₂.heap.get? b = some o → s'.heap.get? b = some o) → RR (.ref D) C (.ok .next) s') :
    wpAny c.M f.A (newList []) (fun acc s₃ => wpAny c.M f.A (newFunctionEnv scope f.env.globals (closOf f.cells scope.names []) [] f.env.qual none .none (some f.env)) (fun cenv s₄ =>
      codeAny c.M f.A (.compStart (.ListComp elt [⟨target, iter, ifs, 0⟩] scope pos) 0 (.ref I) acc { cenv with scope := relabel scope f.env }) (RR acc cenv.locals) s₄) E s₃) E s₂ := by
  have hI := W.field _ _ W.start
  refine wpAny_newObj_type (wpAny_newFunctionEnv S.cell (by intro y hy; simp at hy) (fun h₁ hns₁ hsb₁ => ?_) S.kind)
  dsimp only at hns₁ hsb₁ ⊢
  generalize hH2 : s₂.heap.push { cls := .type "list", dict := none, data := .seq ([] : List Value).toArray } = H2 at hns₁ hsb₁ ⊢
  have hC : H2.objs.size = s₂.heap.objs.size + 1 := by rw [← hH2, Heap.size_push]
  have hDC : s₂.heap.objs.size ≠ H2.objs.size := by rw [hC]; exact Nat.ne_of_lt (Nat.lt_succ_self _)
  have old : Ext s₂.heap h₁ := fun b o e => hsb₁.extBut b o (by rw [hC]; exact Nat.ne_of_lt (Nat.lt_succ_of_lt (Heap.lt_size e))) (Heap.get?_push_of_some _ (hH2 ▸ Heap.get?_push_of_some _ e))
  have hacc : h₁.PlainList s₂.heap.objs.size #[] := ⟨_, hsb₁.extBut _ _ hDC (Heap.get?_push_of_some _ (hH2 ▸ Heap.get?_push_size _ rfl))⟩
  have fresh : ∀ a, s₂.heap.objs.size ≤ a → s₂.heap.get? a = none := fun a ha => by
    cases e : s₂.heap.get? a with
    | none => rfl
    | some o' => exact absurd (Heap.lt_size e) (Nat.not_lt.mpr ha)
  have hCf : s₂.heap.get? H2.objs.size = none := fresh _ (by rw [hC]; exact Nat.le_succ _)
  have R' := comp_rel S R hAr hI hIz hCf old hns₁
  let f' : Fm := compFm scope f (closOf f.cells scope.names []) H2.objs.size (hideAll s₂.heap (I :: (closOf f.cells scope.names []).map (·.2)))
  have hcl : ∀ x a, (closOf f.cells scope.names []).lookup x = some a → ∃ o, s₂.heap.get? a = some o := by
    intro x a e
    rcases closOf_mem f.cells _ [] (x, a) (mem_of_lookup e) with q | ⟨q1, q2⟩
    · cases q
    · obtain ⟨a', v, h3, o, ho, _⟩ := R.cell x (S.free _ q2 rfl)
      rw [q1] at h3; cases h3
      exact ⟨o, ho⟩
  have loop : ∀ s₃ : Shared, s₃ = { s₂ with heap := h₁, toks := s₂.toks + ([] : List (Str × Value)).length } →
      codeAny c.M f.A (.compLoop (.ListComp elt [⟨target, iter, ifs, 0⟩] scope pos) 0 (.ref I) (.ref s₂.heap.objs.size) f'.env)
        (RR (.ref s₂.heap.objs.size) H2.objs.size) s₃ := by
    rintro s₃ rfl
    have R'' : Rel c f' (fun b o => f'.he.get? b = some o) (capLoc caps ρ) ({ s₂ with heap := h₁, toks := s₂.toks + ([] : List (Str × Value)).length } : Shared).heap (fun x => List.lookup x ([] : List (Str × Value)).reverse) (fun _ => 0) := R'
    refine comp_loop (f' := f') (h₀ := s₂.heap) (ρc := capLoc caps ρ) (Z := fun b o => f'.he.get? b = some o) W hsz R'' (fun o e => ?_) (fun o e => ?_) old (fresh _ (Nat.le_refl _)) hCf hDC ?_ hsrc hcl (fun y st e => ?_) hacc (turn _ _ _) fun s' m' ys og hn hp hal hk => ?_
    · have := hideAll_none (h := s₂.heap) (I :: (closOf f.cells scope.names []).map (·.2)) (b := I) (.head _)
      have e : (hideAll s₂.heap (I :: (closOf f.cells scope.names []).map (·.2))).get? I = some o := e
      rw [this] at e; cases e
    · have := of_hideAll _ e
      rw [fresh _ (Nat.le_refl _)] at this; cases this
    · obtain ⟨o, _, _, ho, _⟩ := hI; exact ⟨o, ho⟩
    · obtain ⟨_, st₀, _, q⟩ := capLoc_some e; exact ⟨_, q⟩
    · exact k _ _ s' m' ys (fresh _ (Nat.le_refl _)) hCf hDC ⟨og.os, og.gens⟩ hn hp hal hk
  exact codeAny_compStart_list (loop _ rfl) ((W.walks f.A R.room.handled).self 0 _ _ _ ((W.walks f.A R.room.handled).frame _ _ _ W.start fun b _ o e => old b o e) (loop _ rfl))
theorem all2_er {h : Heap} {l : List V} {m : List Value} (x : All2 PR l m) : All2 (ER h) l m := x.mono fun _ _ e => e.er
/-- a list comprehension of one clause -/
theorem WE.comp {elt target iter : Expr} {ifs : List Expr} {scope : Scope} {pos : Pos} {Q : V → Prop} (caps : List String) (g : V → Option V) (S : CompS f scope caps) (hAr : ∀ x ∈ caps, ∀ st, ρ x = some st → Ar st.get = true)
    (h : WE c f ρ iter fun v => ∃ items, itemsOf v = some items ∧ items.length ≤ 100000 ∧ (∀ cl C he (i : Nat) (v : V), items[i]? = some v → CompTurn c (compFm scope f cl C he) (capLoc caps ρ) target elt ifs v (g v)) ∧ Q (.new (items.filterMap g)))
    (hs : ∀ x, foldedSetIterable iter f.env x = pure x := by intro _; rfl) :
    WE c f ρ (.ListComp elt [⟨target, iter, ifs, 0⟩] scope pos) Q :=
  fun Z s E Qs m ad R k => by
    rw [eval_ListComp]
    have hclos : closureFor scope f.env = pure (closOf f.cells scope.names []) := closureFor_eq fun y hy e => let ⟨a, _, h, _⟩ := R.cell y.1 (S.free y hy e); ⟨a, h⟩
    refine wpAny_comprehension_free (use := none) rfl hs hclos S.kind S.names (h Z s E _ m ad R fun v w s₁ hq x₁ hv => ?_)
    obtain ⟨items, hi, hsz, turn, q⟩ := hq
    refine iter_of hv hi fun I src P St h' x₂ hfr W hsrc => ?_
    have R₂ := R.ext (x₁.x.trans x₂)
    refine comp_block (s₂ := { s₁ with heap := h' }) W hsz R₂ S (fun o z => ?_) hAr (fun a ha => ?_) turn fun D C s' m' ys hD hC hDC og hn hp hal hk => ?_
    · have := (R.ext x₁.x).z I o z; rw [hfr] at this; cases this
    · have e := hsrc a ha
      exact iter_src hv hi x₂ e
    · refine ⟨m', hn, fun h'' hs'' => ?_⟩
      refine k (.new (items.filterMap g)) (.ref D) { s' with heap := h'' } q ⟨fun b o e => ?_, og.os.trans x₁.os, og.gens.trans x₁.gens⟩ ⟨D, ys, rfl, ?_, hp.at fun o e => hs''.extBut _ _ hDC e, all2_er hal⟩
      · have e₂ := x₂ _ _ (x₁.x _ _ e)
        exact hs''.extBut b o (fun q => by rw [q] at e₂; rw [hC] at e₂; cases e₂) (hk b o (fun q => by rw [q] at e; have := x₁.x _ _ e; rw [hfr] at this; cases this) e₂)
      · cases q : s.heap.get? D with
        | none => rfl
        | some o => have e₂ := x₂ _ _ (x₁.x _ _ q); rw [hD] at e₂; cases e₂
end
section
open _root_.PySem _root_.PySem.W _root_.PySem.Calls _root_.PyProof.Rows
set_option linter.unusedVariables false
variable {c : Cx} {f : Fm} {ρ : Loc}
theorem not_cell_at {h : Heap} {C a : Addr} {v : Option Value} {m : Str → Option Value} (hc : h.IsCell a v) (q : a = C) (n : h.Ns C m) : False := not_cell_ns n hc q
/-- x = [.. for ..], on one line, x a local -/
theorem WS.asgComp {x : String} {px : Pos} {elt target iter : Expr} {ifs : List Expr} {scope : Scope} {pos spos : Pos} {Q : Fl → Loc → Prop} (caps : List String) (g : V → Option V) (S : CompS f scope caps) (hAr : ∀ x ∈ caps, ∀ st, ρ x = some st → Ar st.get = true)
    (hl : f.sc.names.lookup (Str.ofString x) = some .local)
    (h : WE c f ρ iter fun v => ∃ items, itemsOf v = some items ∧ items.length ≤ 100000 ∧ (∀ cl C he (i : Nat) (v : V), items[i]? = some v → CompTurn c (compFm scope f cl C he) (capLoc caps ρ) target elt ifs v (g v)) ∧ Q .next (upd ρ x (.own (.list (items.filterMap g)))))
    (hsw : swapsWith (.ListComp elt [⟨target, iter, ifs, 0⟩] scope pos) (some (.Name (Str.ofString x) px)) spos.line f.env = pure true)
    (hs : ∀ x, foldedSetIterable iter f.env x = pure x := by intro _; rfl) :
    WS c f ρ (.Assign [.Name (Str.ofString x) px] (.ListComp elt [⟨target, iter, ifs, 0⟩] scope pos) spos) Q :=
  fun Z s E Qs m ad R k => by
    have hclos : closureFor scope f.env = pure (closOf f.cells scope.names []) := closureFor_eq fun y hy e => let ⟨a, _, h, _⟩ := R.cell y.1 (S.free y hy e); ⟨a, h⟩
    show wpAny c.M f.A (exec _ f.env) Qs E s
    rw [exec_Assign_Name_used _ _ _ _ hsw]
    refine wpAny_bind (wpAny_standAt (wpAny_bind ?_))
    show wpAny _ f.A (do let _ ← comprehension (.ListComp elt [⟨target, iter, ifs, 0⟩] scope pos) scope f.env _ (newList []) false (eval iter f.env) (some (assign (.Name (Str.ofString x) px) f.env))) _ _ s
    refine wpAny_bind (wpAny_mono (wpAny_comprehension_free (use := some (assign (.Name (Str.ofString x) px) f.env)) (Q := fun _ s' => Qs .next s') rfl hs hclos S.kind S.names
      (h Z s E _ m ad R fun v w s₁ hq x₁ hv => ?_)) (fun _ s' hq => wpAny_pure (wpAny_pure hq)) fun _ _ e => e)
    obtain ⟨items, hi, hsz, turn, q⟩ := hq
    refine iter_of hv hi fun I src P St h' x₂ hfr W hsrc => ?_
    have R₂ := R.ext (x₁.x.trans x₂)
    refine comp_block (s₂ := { s₁ with heap := h' }) W hsz R₂ S (fun o z => ?_) hAr (fun a ha => iter_src hv hi x₂ (hsrc a ha)) turn fun D C s' m' ys hD hC hDC og hn hp hal hk => ?_
    · have := (R.ext x₁.x).z I o z; rw [hfr] at this; cases this
    have X : Ext s₁.heap s'.heap := fun b o e => hk b o (fun q => by rw [q, hfr] at e; cases e) (x₂ _ _ e)
    have R₃ := R.ext (x₁.x.trans X)
    have hD₁ : s₁.heap.get? D = none := x₂.none hD
    have hC₁ : s₁.heap.get? C = none := x₂.none hC
    have hCL : C ≠ f.L := by
      rintro rfl; obtain ⟨o, _, _, ho, _⟩ := (R.ext x₁.x).ns; rw [hC₁] at ho; cases ho
    show wpAny _ f.A (assign (.Name (Str.ofString x) px) f.env (.ref D)) _ _ _
    refine wpAny_assign_Name (store_local R₃ (a := D) (st := .own (.list (items.filterMap g))) ⟨rfl, ys, hp, all2_er hal⟩ (fun o e => apart_of (R.ext x₁.x) hD₁) (fun _ _ e => nomatch e) hl fun h₂ m₂ hsb R₄ => ?_)
    refine ⟨m', hn.sameBut hsb hCL, fun h₃ hs₃ => ?_⟩
    refine k _ _ _ { s' with heap := h₃, toks := s'.toks + 1 } _ _ q rfl ⟨og.os.trans x₁.os, og.gens.trans x₁.gens⟩ (R₄.but hs₃.extBut (fun o z => ?_) (Ne.symm hCL) (fun y a v _ hc q => ?_) (fun a its t q => ?_) (fun y o e q => ?_) fun y b l e q => ?_)
    · have := R₂.z C o z; rw [hC] at this; cases this
    · exact not_cell_at hc q (hn.sameBut hsb hCL)
    · subst q
      obtain ⟨o, _, _, ho, hd, _⟩ := hn.sameBut hsb hCL
      obtain ⟨o', ho', _, n, hd'⟩ := t
      rw [ho] at ho'; cases ho'; rw [hd] at hd'; cases hd'
    · obtain ⟨w', _, hsr⟩ := R₄.var y _ e
      rw [q] at hsr
      have hn₂ := hn.sameBut hsb hCL
      obtain ⟨o', _, _, ho, hd, _⟩ := hn₂
      cases o with
      | list l => exact not_own_ns (hn.sameBut hsb hCL) hsr.2 rfl
      | dict d =>
        by_cases hy : y = x
        · subst hy; cases Option.some.inj (upd_self.symm.trans e)
        · rw [upd_ne hy] at e
          rw [adOf_ne hy] at q
          obtain ⟨w', _, hsr'⟩ := (R.ext x₁.x).var y _ e
          obtain ⟨ob, hob⟩ := hsr'.2.some
          rw [q, hC₁] at hob; cases hob
      | bar b =>
        by_cases hy : y = x
        · subst hy; cases Option.some.inj (upd_self.symm.trans e)
        · rw [upd_ne hy] at e
          rw [adOf_ne hy] at q
          obtain ⟨w', _, hsr'⟩ := (R.ext x₁.x).var y _ e
          obtain ⟨ob, hob⟩ := hsr'.2.some
          rw [q, hC₁] at hob; cases hob
    · obtain ⟨w', _, hsr⟩ := R₄.var y _ e
      subst q
      exact not_own_ns (hn.sameBut hsb hCL) hsr.2 rfl
end
section
open _root_.PySem _root_.PySem.W _root_.PySem.Calls _root_.PyProof.Rows _root_.PySem.Builtin _root_.PySem.Builtin.Str
set_option linter.unusedVariables false
set_option linter.deprecated false
variable {c : Cx} {f : Fm} {ρ : Loc}
noncomputable def clipN (n d : Nat) : Option Int → Nat
  | none => d
  | some i => (max 0 (min (if i < 0 then i + n else i) n)).toNat
noncomputable def sl {α : Type} (lo hi : Option Int) (x : List α) : List α := (x.drop (clipN x.length 0 lo)).take (clipN x.length x.length hi - clipN x.length 0 lo)
theorem clipN_le (n d : Nat) (hd : d ≤ n) (v : Option Int) : clipN n d v ≤ n := by
  cases v with
  | none => exact hd
  | some i => exact Int.toNat_le.mpr (Int.max_le.mpr ⟨Int.natCast_nonneg n, Int.min_le_right _ _⟩)
theorem clip_cast (a : Int) (n : Nat) : (if (1 : Int) > 0 then max 0 (min a n) else max (-1) (min a ((n : Int) - 1))) = ((max 0 (min a n)).toNat : Int) := by
  rw [if_pos (by decide)]; exact (Int.toNat_of_nonneg (Int.le_max_left 0 _)).symm
theorem strIdx_clip (lo hi : Option Int) (n : Nat) : strSliceIndices lo hi 1 n = (List.range (clipN n n hi - clipN n 0 lo)).map (fun k => clipN n 0 lo + k) := by
  have ca : ∀ v : Option Int, (match v with | none => (0 : Int) | some i => (let i := if i < 0 then i + (n : Int) else i; if (1 : Int) > 0 then max 0 (min i n) else max (-1) (min i ((n : Int) - 1)))) = (clipN n 0 v : Int) := by
    intro v; cases v with
    | none => rfl
    | some i => exact clip_cast _ n
  have cb : ∀ v : Option Int, (match v with | none => (n : Int) | some i => (let i := if i < 0 then i + (n : Int) else i; if (1 : Int) > 0 then max 0 (min i n) else max (-1) (min i ((n : Int) - 1)))) = (clipN n n v : Int) := by
    intro v; cases v with
    | none => rfl
    | some i => exact clip_cast _ n
  have : strSliceIndices lo hi 1 n = sliceRange (clipN n 0 lo : Int) (clipN n n hi : Int) 1 := by
    rw [← ca lo, ← cb hi]; rfl
  rw [this]
  generalize clipN n 0 lo = a
  generalize clipN n n hi = b
  unfold sliceRange
  simp only [show ((1 : Int) > 0) = True by simp, if_true]
  by_cases hlt : (a : Int) < b
  · have e3 : (((b : Int) - a + 1 - 1) / 1).toNat = b - a := by first | omega | (simp; done) | (simp; omega)
    simp only [hlt, if_true, e3]
    refine List.map_congr_left fun k _ => ?_
    omega
  · have : b - a = 0 := by omega
    simp [hlt, this]
theorem sl_str (lo hi : Option Int) (x : List Nat) : Txt.slice ⟨x.toArray⟩ lo hi = ⟨(sl lo hi x).toArray⟩ := by
  have hn : (⟨x.toArray⟩ : Str).length = x.length := rfl
  have h1 := clipN_le x.length x.length (Nat.le_refl _) hi
  have h2 := clipN_le x.length 0 (Nat.zero_le _) lo
  have key : ((strSliceIndices lo hi 1 x.length).filterMap ((⟨x.toArray⟩ : Str).cps[·]?)) = sl lo hi x := by
    rw [strIdx_clip]
    unfold sl
    by_cases hab : clipN x.length 0 lo ≤ clipN x.length x.length hi
    · have := StrLaws.picks x (clipN x.length x.length hi - clipN x.length 0 lo) (clipN x.length 0 lo) (by omega)
      simpa using this
    · have : clipN x.length x.length hi - clipN x.length 0 lo = 0 := by omega
      rw [this]; simp
  unfold Txt.slice
  rw [hn, key]
  split
  · rename_i h
    simp only [beq_self_eq_true, Bool.true_and, beq_iff_eq] at h
    rw [strIdx_clip, List.length_map, List.length_range] at h
    have e1 : clipN x.length 0 lo = 0 := by omega
    have e2 : clipN x.length x.length hi = x.length := by omega
    unfold sl
    rw [e1, e2]; simp
  · rfl
theorem Op.ord {ch : Nat} : Op1 c (fun w => PySem.call (.builtin "ord") [w]) (.str [ch]) (.int ch) := by
  rintro wa h₁ A s E Qs _ _ ⟨t, rfl⟩ k
  exact P.ord_of_char (k _ _ ⟨Ext.refl _, rfl, rfl⟩ ⟨_, rfl⟩)
theorem Op.chr {i : Int} (h : 0 ≤ i ∧ i < 1000000) : Op1 c (fun w => PySem.call (.builtin "chr") [w]) (.int i) (.str [i.toNat]) := by
  rintro wa h₁ A s E Qs _ _ ⟨t, rfl⟩ k
  exact P.chr_of_int (by simp; omega) (k _ _ ⟨Ext.refl _, rfl, rfl⟩ ⟨_, rfl⟩)
/-- a bound of a slice -/
noncomputable def WPart (c : Cx) (f : Fm) (ρ : Loc) (e : Option Expr) (Q : Option Int → Prop) : Prop :=
  match e with
  | none => Q none
  | some e => WE c f ρ e fun v => ∃ i, v = .int i ∧ Q (some i)
theorem part_ok {e : Option Expr} {Q : Option Int → Prop} (h : WPart c f ρ e Q) {Z : Addr → Obj → Prop} {s : Shared} {E : Value → Shared → Prop} {Qs : Value → Shared → Prop} {m ad} (R : Rel c f Z ρ s.heap m ad)
    (k : ∀ l s', Q (l.map (·.1)) → Sx s s' → Qs (partValue l) s') : wpAny c.M f.A (evalPart e f.env) Qs E s := by
  cases e with
  | none => rw [evalPart_none]; exact wpAny_pure (k none s h (Sx.refl s))
  | some e =>
    rw [evalPart_some]
    refine h Z s E Qs m ad R fun v w s' hq x hv => ?_
    obtain ⟨i, rfl, q⟩ := hq
    obtain ⟨t, rfl⟩ := hv
    exact k (some (i, t)) s' q x
theorem slice_post {s : Shared} {x : List Nat} {t : Tok} {l u : Option (Int × Tok)} {Q : Value → Shared → Prop} (hl : x.length ≤ 100000) (h : ∀ t' k, Q (.str ⟨(sl (l.map (·.1)) (u.map (·.1)) x).toArray⟩ t') { s with toks := k }) :
    (sliceMade ⟨x.toArray⟩ t l u none).post Q s := by
  have e := sl_str (l.map (·.1)) (u.map (·.1)) x
  have h2 := Txt.slice_le ⟨x.toArray⟩ (l.map (·.1)) (u.map (·.1))
  have hn : (⟨x.toArray⟩ : Str).length = x.length := rfl
  rw [hn] at h2
  rw [← e] at h
  unfold sliceMade
  exact post_val_or_str ⟨Nat.le_trans h2 (by rw [sizeLine_eq]; omega), fun t' k => h t' k⟩
theorem WE.slice {value : Expr} {lower upper : Option Expr} {p pos : Pos} {Q : V → Prop} (h : WE c f ρ value fun v => ∃ x, v = .str x ∧ x.length ≤ 100000 ∧ WPart c f ρ lower fun lo => WPart c f ρ upper fun hi => Q (.str (sl lo hi x)))
    (ht : ∀ o r, letTemporaryGo value o r = pure () := by intro _ _; rfl) : WE c f ρ (.Subscript value (.Slice lower upper none p) pos) Q :=
  fun Z s E Qs m ad R k => by
    refine wpAny_Subscript_str_slice (h Z s E _ m ad R fun v w s₁ hq x₁ hv => ?_) ht
    obtain ⟨x, rfl, hl, hq⟩ := hq
    obtain ⟨t, rfl⟩ := hv
    refine part_ok hq (R.ext x₁.x) fun l s₂ hq x₂ => ?_
    refine part_ok hq ((R.ext x₁.x).ext x₂.x) fun u s₃ hq x₃ => ?_
    refine ⟨⟨x.toArray⟩, t, l, u, rfl, rfl, rfl, ?_⟩
    have x₄ := (x₁.trans x₂).trans x₃
    refine slice_post (s := { s₃ with heap := s₃.heap.push { cls := .type "slice", data := .fields #[partValue l, partValue u, .none] } }) hl fun t' kk => ?_
    exact k _ _ _ hq ⟨fun b o e => Heap.get?_push_of_some _ (x₄.x _ _ e), x₄.os, x₄.gens⟩ ⟨t', rfl⟩
end
section
open _root_.PySem _root_.PySem.W _root_.PySem.Calls _root_.PyProof.Rows _root_.PySem.Builtin _root_.PySem.Builtin.Str
set_option linter.unusedVariables false
set_option linter.deprecated false
set_option maxRecDepth 100000
variable {c : Cx} {f : Fm} {ρ : Loc}
theorem WE.methS {o a : Expr} {name : Str} {id : String} {apos pos : Pos} {pl : Sem Bool} {Q : V → Prop}
    (hg : ∀ {x : Str} {t : Tok} {s : Shared} {E : Value → Shared → Prop} {Qm : Value × List Value → Shared → Prop}, Qm (.builtin id, [.str x t]) s → wpAny c.M f.A (getMethod (.str x t) name pl) Qm E s)
    (h : WE c f ρ o fun vo => ∃ x, vo = .str x ∧ WE c f ρ a fun va => ∃ r, Op2 c (fun w w' => PySem.call (.builtin id) [w, w']) (.str x) va r ∧ Q r) (hp : plainE a = true := by rfl)
    (he : eval (.Call (.Attribute o name apos) [a] [] pos) f.env = (do
      let ov ← eval o f.env
      standAt apos.atName
      let (f', first) ← holding [ov] (getMethod ov name pl)
      callWith pos f' first (backTo pos (starEach [a] f.env)) []) := by rfl) : WE c f ρ (.Call (.Attribute o name apos) [a] [] pos) Q :=
  fun Z s E Qs m ad R k => by
    refine MethodCall_ (h Z s E _ m ad R fun vo wo s₁ hq x₁ ho => ?_) he
    obtain ⟨x, rfl, hq⟩ := hq
    obtain ⟨t, rfl⟩ := ho
    refine hg (callWith_method1 ?_ (starEach_plain hp))
    refine wpAny_items_cons (hq Z s₁ E _ m ad (R.ext x₁.x) fun va wa s₂ hr x₂ ha => ?_) (starEach_plain hp)
    refine wpAny_items_nil ?_
    obtain ⟨r, hop, q⟩ := hr
    exact hop _ wa s₁.heap s₁.heap f.A s₂ E Qs R.room.zero (base_ext (R.ext (x₁.trans x₂).x)) ⟨t, rfl⟩ ha fun w s' x₃ hv => k _ _ _ q ((x₁.trans x₂).trans x₃) (hv.since (x₁.trans x₂).x)
theorem Op.index {x y : List Nat} {i : Nat} {rest : List Nat} (ho : occurrences ⟨x.toArray⟩ ⟨y.toArray⟩ 0 x.length 1 = i :: rest) : Op2 c (fun w w' => PySem.call (.builtin "str.index") [w, w']) (.str x) (.str y) (.int i) := by
  rintro wa wb h₁ h₂ A s E Qs _ _ ⟨t, rfl⟩ ⟨u, rfl⟩ k
  exact SC.index (x := ⟨x.toArray⟩) ho (k _ _ ⟨Ext.refl _, rfl, rfl⟩ ⟨_, rfl⟩)
theorem signs_are {h : Heap} : ∀ {l : List Nat} {ws : List Value}, All2 (ER h) (l.map fun ch => V.str [ch]) ws → StrsAre ws (l.map fun ch => (⟨#[ch]⟩ : Str))
  | [], [], _ => .nil
  | ch :: r, _ :: ws, ⟨⟨t, e⟩, q2⟩ => by subst e; exact .cons _ t (signs_are q2)
  | [], _ :: _, q => q.elim
  | _ :: _, [], q => q.elim
theorem signs_sum : ∀ l : List Nat, ((l.map fun ch => (⟨#[ch]⟩ : Str)).map (·.length)).sum ≤ l.length
  | [] => Nat.le_refl _
  | ch :: r => by
    have ih := signs_sum r
    simp only [List.map_cons, List.sum_cons, List.length_cons]
    exact Nat.le_trans (Nat.add_le_add (Nat.le_refl 1) ih) (by omega)
theorem Op.join0 {v : V} {l : List Nat} (e : v.list? = some (l.map fun ch => .str [ch])) (hl : l.length ≤ 1000) : Op2 c (fun w w' => PySem.call (.builtin "str.join") [w, w']) (.str []) v (.str l) := by
  rintro wa wb h₁ h₂ A s E Qs _ _ ⟨t, rfl⟩ hv k
  obtain ⟨a, its, rfl, hls, q⟩ := hv.isList e
  have hw := signs_sum l
  refine join_listW (x := ⟨#[]⟩) hls (signs_are q) (by decide) (by simp only [List.length_map]; omega) fun t' kk => k _ _ ⟨Ext.refl _, rfl, rfl⟩ ⟨t', ?_⟩
  rw [glue_signs]
end
section
open _root_.PySem _root_.PySem.W _root_.PySem.Calls _root_.PyProof.Rows _root_.PySem.Builtin _root_.PySem.Builtin.Str
set_option linter.unusedVariables false
set_option linter.deprecated false
set_option maxRecDepth 100000
variable {c : Cx} {f : Fm} {ρ : Loc}
noncomputable def tokRows : List (List Nat × Nat × Int × Nat) := [([33], 513, 54, 511), ([33, 61], 515, 28, 459), ([37], 517, 24, 451), ([37, 61], 519, 40, 483), ([38], 521, 19, 441), ([38, 61], 523, 41, 485), ([40], 525, 7, 417), ([41], 527, 8, 419), ([42], 529, 16, 435), ([42, 42], 531, 35, 473), ([42, 42, 61], 533, 46, 495), ([42, 61], 535, 38, 479), ([43], 537, 14, 431), ([43, 61], 539, 36, 475), ([44], 541, 12, 427), ([45], 543, 15, 433), ([45, 61], 545, 37, 477), ([45, 62], 547, 51, 505), ([46], 549, 23, 449), ([46, 46, 46], 551, 52, 507), ([47], 553, 17, 437), ([47, 47], 555, 47, 497), ([47, 47, 61], 557, 48, 499), ([47, 61], 559, 39, 481), ([58], 561, 11, 425), ([58, 61], 563, 53, 509), ([59], 565, 13, 429), ([60], 567, 20, 443), ([60, 60], 569, 33, 469), ([60, 60, 61], 571, 44, 491), ([60, 61], 573, 29, 461), ([61], 575, 22, 447), ([61, 61], 577, 27, 457), ([62], 579, 21, 445), ([62, 61], 581, 30, 463), ([62, 62], 582, 34, 471), ([62, 62, 61], 583, 45, 493), ([64], 584, 49, 501), ([64, 61], 585, 50, 503), ([91], 586, 9, 421), ([93], 587, 10, 423), ([94], 588, 32, 467), ([94, 61], 589, 43, 489), ([123], 590, 25, 453), ([124], 591, 18, 439), ([124, 61], 592, 42, 487), ([125], 593, 26, 455), ([126], 594, 31, 465)]
noncomputable def tokTab : List (List Nat × Int) := tokRows.map fun r => (r.1, r.2.2.1)
noncomputable def tokEnt (P : Params) (r : List Nat × Nat × Int × Nat) : DictEntry := { hash := PyData.keyHash P ⟨r.1.toArray⟩, key := .str ⟨r.1.toArray⟩ r.2.1, val := .int r.2.2.1 r.2.2.2 }
theorem tok_obj (P : Params) : (kk P).lookup 190 = some { cls := .type "dict", data := .dict (tokRows.map (tokEnt P)).toArray 48 } := by kernel_rfl
noncomputable abbrev tokKv (rs : List (List Nat × Nat × Int × Nat)) : List (Str × Value) := rs.map fun r => (⟨r.1.toArray⟩, .int r.2.2.1 r.2.2.2)
theorem tok_pairs (prog : Program) (w : World) : ∀ rs : List (List Nat × Nat × Int × Nat), Pairs (strKind prog w) (rs.map (tokEnt w.params)) (tokKv rs)
  | [] => .nil
  | r :: rs => .cons (strKind_is prog w _ _) rfl (tok_pairs prog w rs)
theorem tok_dict (H : Here c) {h : Heap} (X : Ext c.h₀ h) : h.DictOf (strKind c.prog c.w) 190 (tokKv tokRows) := by
  have e : c.K.lookup 190 = some { cls := .type "dict", data := .dict (tokRows.map (tokEnt c.w.params)).toArray 48 } := by rw [H.K]; exact tok_obj c.w.params
  refine ⟨_, (tokRows.map (tokEnt c.w.params)).toArray, 48, X _ _ (H.ok.k _ _ e), ⟨rfl, rfl, rfl⟩, rfl, fun en he => ?_, tok_pairs c.prog c.w tokRows, by decide +kernel⟩
  obtain ⟨r, _, rfl⟩ := List.mem_map.mp (List.mem_toArray.mp he)
  exact ⟨⟨r.1.toArray⟩, strKind_is c.prog c.w _ _, rfl⟩
theorem tok_find : ∀ (rs : List (List Nat × Nat × Int × Nat)) (x : List Nat), match (rs.map fun r => (r.1, r.2.2.1)).lookup x with
    | some i => ∃ u, valueAt (tokKv rs) ⟨x.toArray⟩ = some (.int i u)
    | none => valueAt (tokKv rs) ⟨x.toArray⟩ = none
  | [], x => rfl
  | (y, a, i, b) :: rs, x => by
    have ih := tok_find rs x
    rw [List.map_cons, List.lookup_cons]
    by_cases hxy : x = y
    · subst hxy
      simp only [beq_self_eq_true]
      exact ⟨b, by simp [valueAt]⟩
    · have : (x == y) = false := by simpa using hxy
      rw [this]
      have e2 : valueAt (tokKv ((y, a, i, b) :: rs)) ⟨x.toArray⟩ = valueAt (tokKv rs) ⟨x.toArray⟩ := by
        unfold valueAt
        rw [show tokKv ((y, a, i, b) :: rs) = (⟨y.toArray⟩, .int i b) :: tokKv rs from rfl, List.find?_cons_of_neg (by simpa using fun e => hxy (mk_inj e).symm)]
      rw [e2]; exact ih
theorem tok_name (H : Here c) {Z : Addr → Obj → Prop} {s : Shared} {m ad} (R : Rel c f Z ρ s.heap m ad) (hn : f.sc.names.lookup (Str.ofString "EXACT_TOKEN_TYPES") = some .globalImplicit) {px : Pos} {E : Value → Shared → Prop} {Q : Value → Shared → Prop} (q : Q (.ref 190) s) :
    wpAny c.M f.A (eval (.Name (Str.ofString "EXACT_TOKEN_TYPES") px) f.env) Q E s :=
  Name_function_global (env := f.env) R.kind hn (loadGlobal_global (env := f.env) (H.ok.g.keeps (base_ext R)) (mg_of H.ok.k H.ok.g (by rw [H.K]; kernel_rfl)) q) (by decide +kernel)
theorem WT.tokIn (H : Here c) {a : Expr} {px pos : Pos} {Q : Bool → Prop} (hn : f.sc.names.lookup (Str.ofString "EXACT_TOKEN_TYPES") = some .globalImplicit) (h : WE c f ρ a fun v => ∃ x, v = .str x ∧ Q (tokTab.lookup x).isSome)
    (hm : behindInMarks .In (.Name (Str.ofString "EXACT_TOKEN_TYPES") px) = false := by with_unfolding_all rfl) :
    WT c f ρ (.Compare a [.In] [.Name (Str.ofString "EXACT_TOKEN_TYPES") px] pos) Q :=
  fun Z s E Qs m ad R k => by
    refine wpAny_isTrue_Compare1 (h Z s E _ m ad R fun va wa s₁ hb x₁ v₁ => tok_name H (R.ext x₁.x) hn ?_) hm
    obtain ⟨x, rfl, hq⟩ := hb
    obtain ⟨t, rfl⟩ := v₁
    refine wpAny_in_of (strKind_is c.prog c.w _ t) rfl (tok_dict H (base_ext (R.ext x₁.x))).mapOf (wpAny_truthy_bool (k _ _ ?_ ⟨x₁.x, x₁.os, x₁.gens⟩))
    have := tok_find tokRows x
    unfold tokTab at hq
    cases e : (tokRows.map fun r => (r.1, r.2.2.1)).lookup x with
    | none => rw [e] at this hq; rw [show valueAt _ _ = none from this]; exact hq
    | some i => rw [e] at this hq; obtain ⟨u, e2⟩ := this; rw [show valueAt _ _ = _ from e2]; exact hq
/-- EXACT_TOKEN_TYPES[e] -/
theorem WE.tokAt (H : Here c) {a : Expr} {px pos : Pos} {Q : V → Prop} (hn : f.sc.names.lookup (Str.ofString "EXACT_TOKEN_TYPES") = some .globalImplicit) (h : WE c f ρ a fun v => ∃ x i, v = .str x ∧ tokTab.lookup x = some i ∧ Q (.int i))
    (hs : ∀ o i, subscripted a false o i = operate [o, i] (getItem o i) := by intros; rfl) : WE c f ρ (.Subscript (.Name (Str.ofString "EXACT_TOKEN_TYPES") px) a pos) Q :=
  fun Z s E Qs m ad R k => by
    refine Subscript_ (tok_name H R hn (h Z s E _ m ad R fun va wa s₁ hb x₁ v₁ => ?_))
    obtain ⟨x, i, rfl, hx, hq⟩ := hb
    obtain ⟨t, rfl⟩ := v₁
    have := tok_find tokRows x
    unfold tokTab at hx
    rw [hx] at this
    obtain ⟨u, e2⟩ := this
    have hd := tok_dict H (base_ext (R.ext x₁.x))
    exact tail_any hd.typeIs slot_dict_getitem.lookup (wpAny_getItem_of (strKind_is c.prog c.w _ t) hd.mapOf (v := .int i u) e2 (k _ _ _ hq ⟨x₁.x, x₁.os, x₁.gens⟩ ⟨_, rfl⟩)) (hs _ _)
end
section
open _root_.PySem _root_.PySem.W _root_.PySem.Calls _root_.PyProof.Rows _root_.PySem.Builtin _root_.PySem.Builtin.Str
set_option linter.unusedVariables false
set_option linter.deprecated false
set_option maxRecDepth 100000
variable {c : Cx} {f : Fm} {ρ : Loc}
theorem list_iadd_slot : seqSlot? (.type "list") (dunderI "add") = pure (some (.builtin "list.__iadd__")) := PySem.seqSlot_of PySem.F.slot_list_iadd.lookup (by decide +kernel)
theorem list_iadd_fill : fillsInplaceSlot (.type "list") "add" (Operator.Add == .Add) = pure false := by
  unfold fillsInplaceSlot
  show (typeLookup (.type "list") (dunderI "add") >>= fun fi => pure (fi.isSome && !isSeqSlot fi)) = pure false
  rw [PySem.F.slot_list_iadd.lookup]; rfl
theorem iadd_list {A : Around} {s : Shared} {E : Value → Shared → Prop} {Q : Value → Shared → Prop} {l b : Addr} {n n2 : Nat} {items items2 : Array Value} (hl : s.heap.get? l = some { cls := .type "list", dict := none, data := .seq items n, slots := #[] })
    (hb : s.heap.get? b = some { cls := .type "list", dict := none, data := .seq items2 n2, slots := #[] }) (hz : items.size + items2.size ≤ 100000)
    (h : Q (.ref l) { s with heap := s.heap.update l (Obj.mapSeq fun x => x ++ items2) }) : wpAny c.M A (inplaceOp .Add (.ref l) (.ref b)) Q E s := by
  have ha : s.TypeIs (.ref l) "list" := ⟨_, hl, rfl⟩
  have hb' : s.TypeIs (.ref b) "list" := ⟨_, hb, rfl⟩
  unfold inplaceOp
  refine wpAny_holding ?_
  refine wpAny_bind (wpAny_typeOf ha (wpAny_bind (wpAny_of_eq list_iadd_fill ?_)))
  show wpAny c.M A (if false = true then _ else _) Q E s
  rw [if_neg Bool.false_ne_true]
  refine wpAny_bind (wpAny_binaryOp1_none (nm := "add") ha hb' noFill_list_add ?_)
  refine wpAny_bind (wpAny_of_eq list_iadd_slot ?_)
  refine wpAny_bind (wpAny_rule ?_)
  refine call_meets PySem.F.slot_list_iadd ha PySem.F.entry_list_iadd (PySem.F.args_list_iadd_2 _ _) (AutoSeq1.list___iadd___list_list_0 l items n b items2 n2 ?_ (by rw [sizeLine_eq]; omega) (by rw [sizeLine_eq]; omega)) ⟨hl, hb, h⟩
  have : Builtin.List.listTooLong (items.size + items2.size) = false := by
    unfold Builtin.List.listTooLong
    rw [sizeLine_eq]
    exact decide_eq_false (by omega)
  rw [this]; simp
theorem upd_upd {x : String} {s s' : S} : upd (upd ρ x s) x s' = upd ρ x s' := by
  funext y
  by_cases hy : y = x
  · subst hy; rw [upd_self, upd_self]
  · rw [upd_ne hy, upd_ne hy, upd_ne hy]
theorem WS.augL {x : String} {px pos : Pos} {value : Expr} {Q : Fl → Loc → Prop} {l : List V} (hx : ρ x = some (.own (.list l)))
    (h : WE c f ρ value fun v => ∃ l2, v = .new l2 ∧ l.length + l2.length ≤ 100000 ∧ Q .next (upd ρ x (.own (.list (l ++ l2))))) (hk : f.sc.names.lookup (Str.ofString x) = some .local) :
    WS c f ρ (.AugAssign (.Name (Str.ofString x) px) .Add value pos) Q :=
  fun Z s E Qs m ad R k => by
    obtain ⟨w₀, ha, hw, items, ⟨n, hp⟩, hal⟩ := R.var x _ hx
    obtain ⟨n1, n2, n3, n4⟩ := R.own x _ hx
    subst hw
    refine wpAny_AugAssign_Name (loadName_at R.kind R.ns ha ?_)
    refine h Z s E _ m ad R fun v w s₁ hq x₁ hv => ?_
    obtain ⟨l2, rfl, hlen, q⟩ := hq
    obtain ⟨b, its, rfl, hf, ⟨n', hb⟩, hal2⟩ := hv
    have hl1 := hal.length
    have hl2 := hal2.length
    have R₁ := R.ext x₁.x
    refine iadd_list (x₁.x _ _ hp) hb (by simp at hl1 hl2; omega) ?_
    have hsb : Heap.SameBut (ad x) s₁.heap (s₁.heap.update (ad x) (Obj.mapSeq fun x => x ++ its)) := Heap.SameBut.update ..
    have ht : ∀ a its, IsTup s₁.heap a its → a ≠ ad x := fun a its t => by
      rintro rfl
      obtain ⟨o, ho, hc, _⟩ := t
      rw [x₁.x _ _ hp] at ho; cases ho; simp at hc
    have R₂ := mut_rel R₁ (o' := .list (l ++ l2)) hx hsb ⟨items ++ its, ?_, ?_⟩
    · have := store_local (s := { s₁ with heap := s₁.heap.update (ad x) (Obj.mapSeq fun x => x ++ its) }) R₂ (a := ad x) (st := .own (.list (l ++ l2))) (w := .ref (ad x)) (E := E) (Q := fun _ s' => Qs .next s') ?_ (x := x) (fun o e => ⟨n1, n2, fun y o e hy => ?_, fun y b l e hy => ?_⟩) (fun _ _ e => nomatch e) hk fun h' m' _ R₃ => ?_
      · exact this
      · obtain ⟨w', ha', hs'⟩ := R₂.var x _ upd_self
        exact ⟨rfl, hs'.2⟩
      · rw [upd_ne hy] at e; exact n3 y o e hy
      · rw [upd_ne hy] at e; exact n4 y b l e
      · rw [upd_upd] at R₃
        exact k _ _ _ { s₁ with heap := h', toks := s₁.toks + 1 } _ _ q rfl ⟨x₁.os, x₁.gens⟩ R₃
    · obtain ⟨n'', e⟩ := Obj.data_mapSeq (o := { cls := .type "list", data := .seq items n }) rfl (fun x => x ++ its)
      exact ⟨_, Heap.get?_update_self _ (x₁.x _ _ hp) rfl⟩
    · rw [Array.toList_append]
      exact (hal.mono fun _ _ e => ER.but hsb.extBut ht (ER.mono x₁.x e)).append (hal2.mono fun _ _ e => ER.but hsb.extBut ht e)
end
section
open _root_.PySem _root_.PySem.W _root_.PySem.Calls _root_.PyProof.Rows _root_.PySem.Builtin _root_.PySem.Builtin.Str
set_option linter.unusedVariables false
set_option linter.deprecated false
set_option maxRecDepth 100000
variable {c : Cx} {f : Fm} {ρ : Loc}
theorem i_pairs : ∀ {D : List (Int × Int)} {ws : List (Value × Value)}, All2 P2 (iPairs D) ws → allIntKeys ws = true ∧ (intKeyPairs ws).map (·.1) = D.map (·.1) ∧
    ∀ x, match D.lookup x with | some i => ∃ t, valueAt (intKeyPairs ws) x = some (.int i t) | none => valueAt (intKeyPairs ws) x = none
  | [], [], _ => ⟨rfl, rfl, fun _ => rfl⟩
  | (y, j) :: D, (w1, w2) :: ws, ⟨⟨⟨t, e1⟩, ⟨u, e2⟩⟩, r⟩ => by
    dsimp only at e1 e2
    subst e1 e2
    obtain ⟨a, b, d⟩ := i_pairs r
    refine ⟨a, by simp [intKeyPairs, b], fun x => ?_⟩
    rw [List.lookup_cons]
    by_cases hxy : x = y
    · subst hxy
      simp only [beq_self_eq_true]
      exact ⟨u, by simp [intKeyPairs, valueAt]⟩
    · have : (x == y) = false := by simpa using hxy
      rw [this]
      have e2 : valueAt (intKeyPairs ((.int y t, .int j u) :: ws)) x = valueAt (intKeyPairs ws) x := by
        unfold valueAt
        rw [show intKeyPairs ((.int y t, .int j u) :: ws) = (y, .int j u) :: intKeyPairs ws from rfl, List.find?_cons_of_neg (by simpa using fun e => hxy e.symm)]
      rw [e2]; exact d x
  | [], _ :: _, x => x.elim
  | _ :: _, [], x => x.elim
theorem lt_size {h : Heap} (H : Here c) (X : Ext c.h₀ h) : 235 < h.objs.size := by
  have e : ∃ o, c.K.lookup 235 = some o := by rw [H.K]; exact ⟨_, by with_unfolding_all rfl⟩
  obtain ⟨o, e⟩ := e
  exact Heap.lt_size (X _ _ (H.ok.k _ _ e))
/-- {..}.get(e, d), of ints -/
theorem WE.dget (H : Here c) {ks : List (Option Expr)} {vs : List Expr} {idx df : Expr} {p1 apos p2 : Pos} {pl : Sem Bool} {Q : V → Prop} (hall : ks.all (·.isSome) = true) (hl : ks.length = vs.length) (h0 : ks ≠ []) (hlen : ks.length ≤ 15)
    (h : WEp c f ρ ks vs fun ps => ∃ D, ps = iPairs D ∧ (D.map (·.1)).Nodup ∧ WE c f ρ idx fun vi => ∃ x, vi = .int x ∧ WE c f ρ df fun vd => ∃ d, vd = .int d ∧ Q (.int ((D.lookup x).getD d)))
    (hp1 : plainE idx = true := by rfl) (hp2 : plainE df = true := by rfl)
    (he : eval (.Call (.Attribute (.Dict ks vs p1) (Str.ofString "get") apos) [idx, df] [] p2) f.env = (do
      let ov ← eval (.Dict ks vs p1) f.env
      standAt apos.atName
      let (f', first) ← holding [ov] (getMethod ov (Str.ofString "get") pl)
      callWith p2 f' first (backTo p2 (starEach [idx, df] f.env)) []) := by rfl) : WE c f ρ (.Call (.Attribute (.Dict ks vs p1) (Str.ofString "get") apos) [idx, df] [] p2) Q :=
  fun Z s E Qs m ad R k => by
    refine MethodCall_ (wpAny_Dict_walk (knd := intKind c.prog c.w) hall hl h0 hlen ?_) he
    refine wep_pairs h Z _ E _ m ad (R.ext (Ext.push _ _)) fun ps ws s₁ hq x₁ al => ?_
    obtain ⟨D, rfl, hn, hi⟩ := hq
    obtain ⟨a1, a2, a3⟩ := i_pairs al
    have hd0 : s₁.heap.DictOf (intKind c.prog c.w) s.heap.objs.size [] := by
      obtain ⟨o, es, ep, ho, r⟩ := Heap.DictOf.new (knd := intKind c.prog c.w) s.heap
      exact ⟨o, es, ep, x₁.x _ _ ho, r⟩
    refine display_done_int a1 (by rw [a2]; exact hn) hd0 fun h' hd' hs' => ?_
    have x₂ : Ext s.heap h' := fun b o e => hs'.extBut b o (Nat.ne_of_lt (Heap.lt_size e)) (x₁.x _ _ (Heap.get?_push_of_some _ e))
    refine getMethod_builtin hd'.typeIs PySem.F.plainAttrs_dict PySem.F.slot_dict_get PySem.F.type_dict_get hd'.mapOf.noDict (callWith_method1 ?_ (starEach_plain hp1) ?_)
    rotate_left
    · exact star_no [df] (by simp [hp2])
    refine wpAny_items_cons (hi Z { s₁ with heap := h', toks := s₁.toks + ws.length } E _ m ad (R.ext x₂) fun vi wi s₃ hq x₃ r₃ => ?_) (starEach_plain hp1)
    obtain ⟨x, rfl, hq⟩ := hq
    obtain ⟨t, rfl⟩ := r₃
    refine wpAny_items_cons (hq Z s₃ E _ m ad ((R.ext x₂).ext x₃.x) fun vd wd s₄ hq x₄ r₄ => ?_) (starEach_plain hp2)
    obtain ⟨d, rfl, q⟩ := hq
    obtain ⟨u, rfl⟩ := r₄
    refine wpAny_items_nil ?_
    have hm : s₄.heap.MapOf (intKind c.prog c.w) s.heap.objs.size (valueAt (intKeyPairs ws)) := by
      obtain ⟨o, es, ep, ho, r⟩ := hd'.mapOf
      exact ⟨o, es, ep, x₄.x _ _ (x₃.x _ _ ho), r⟩
    have hlo : ((s.heap.objs.size : Addr) == sysModules) = false := by
      have := lt_size H (base_ext R)
      exact beq_false_of_ne (Nat.ne_of_gt (Nat.lt_trans (by decide) this))
    refine call_meetsIn PySem.F.slot_dict_get hm.typeIs PySem.F.entry_dict_get (PySem.F.args_dict_get_3 _ _ _) (meets_dict_get_default (intKind c.prog c.w) s.heap.objs.size (intKind_is c.prog c.w x t) hlo (.int d u)) ⟨_, hm, ?_⟩
    have := a3 x
    have x₅ : Sx s s₄ := ⟨(x₂.trans x₃.x).trans x₄.x, (x₄.os.trans x₃.os).trans x₁.os, (x₄.gens.trans x₃.gens).trans x₁.gens⟩
    cases e : D.lookup x with
    | none =>
      rw [e] at this q
      rw [show valueAt _ _ = none from this]
      exact k _ _ _ q ⟨x₅.x, x₅.os, x₅.gens⟩ ⟨u, rfl⟩
    | some i =>
      rw [e] at this q
      obtain ⟨u', e2⟩ := this
      rw [e2]
      exact k _ _ _ q ⟨x₅.x, x₅.os, x₅.gens⟩ ⟨u', rfl⟩
end
section
open _root_.PySem _root_.PySem.W _root_.PySem.Calls _root_.PyProof.Rows _root_.PySem.Builtin _root_.PySem.Builtin.Str
set_option linter.unusedVariables false
set_option linter.deprecated false
set_option maxRecDepth 100000
variable {c : Cx} {f : Fm} {ρ : Loc}
noncomputable def pk {α : Type} (lo hi st : Option Int) (l : List α) : List α := (sliceRange (sliceBounds lo hi st l.length).1 (sliceBounds lo hi st l.length).2.1 (sliceBounds lo hi st l.length).2.2).filterMap (l[·]?)
theorem all2_pick {α β : Type} {R : α → β → Prop} {l : List α} {m : List β} (h : All2 R l m) : ∀ ks : List Nat, All2 R (ks.filterMap (l[·]?)) (ks.filterMap (m[·]?))
  | [] => trivial
  | k :: ks => by
    have ih := all2_pick h ks
    rw [List.filterMap_cons, List.filterMap_cons]
    cases e : l[k]? with
    | none =>
      have hm : m[k]? = none := by rw [List.getElem?_eq_none_iff] at e ⊢; have := h.length; omega
      rw [hm]; exact ih
    | some a =>
      obtain ⟨b, e2, r⟩ := h.get e
      rw [e2]; exact ⟨r, ih⟩
theorem pk_vals {R : V → Value → Prop} {l : List V} {its : Array Value} (h : All2 R l its.toList) (lo hi st : Option Int) : All2 R (pk lo hi st l) (slicePick its lo hi st).toList := by
  have hl : l.length = its.size := by have := h.length; simpa using this
  have := all2_pick h (sliceRange (sliceBounds lo hi st its.size).1 (sliceBounds lo hi st its.size).2.1 (sliceBounds lo hi st its.size).2.2)
  unfold pk slicePick
  rw [hl]
  simpa using this
theorem isPart_of (l : Option (Int × Tok)) : IsPart (partValue l) (l.map (·.1)) := by
  cases l with
  | none => exact .none
  | some p => exact .int _ _
theorem WE.sliceL {value : Expr} {lower upper step : Option Expr} {p pos : Pos} {Q : V → Prop} (h : WE c f ρ value fun v => ∃ l, v.list? = some l ∧ l.length ≤ 100000 ∧ WPart c f ρ lower fun lo => WPart c f ρ upper fun hi => WPart c f ρ step fun st => st ≠ some 0 ∧ Q (.new (pk lo hi st l)))
    (ht : ∀ o r, letTemporaryGo value o r = pure () := by intro _ _; rfl) : WE c f ρ (.Subscript value (.Slice lower upper step p) pos) Q :=
  fun Z s E Qs m ad R k => by
    have fin : ∀ (l u st : Option (Int × Tok)) (s₃ : Shared) (v : V) (w₀ : Value) (lst : List V), VR s.heap s₃.heap v w₀ → v.list? = some lst → lst.length ≤ 100000 → st.map (·.1) ≠ some 0 → Q (.new (pk (l.map (·.1)) (u.map (·.1)) (st.map (·.1)) lst)) → Sx s s₃ →
        ({ s₃ with heap := s₃.heap.push { cls := .type "slice", data := .fields #[partValue l, partValue u, partValue st] } } : Shared).TypeIs w₀ "list" ∧
        wpAny c.M f.A (getItem w₀ (.ref s₃.heap.objs.size)) Qs E { s₃ with heap := s₃.heap.push { cls := .type "slice", data := .fields #[partValue l, partValue u, partValue st] } } := by
      intro l u st s₃ v w₀ lst hv e hlen h0 q x₃
      obtain ⟨a, its, rfl, hl, hal⟩ := hv.isList e
      have hsz : its.size ≤ 100000 := by have := hal.length; simp at this; omega
      refine ⟨(hl.push _).typeIs, wpAny_getItem_list_slice (hl.push _) (Heap.IsSliceOf.new ..) (isPart_of l) (isPart_of u) (isPart_of st) h0 ?_ (by rw [sizeLine_eq]; omega)⟩
      have x₅ : Ext s₃.heap ((s₃.heap.push { cls := .type "slice", data := .fields #[partValue l, partValue u, partValue st] }).push { cls := .type "list", data := .seq (slicePick its (l.map (·.1)) (u.map (·.1)) (st.map (·.1))) }) := (Ext.push _ _).trans (Ext.push _ _)
      refine k _ _ _ q ⟨x₃.x.trans x₅, x₃.os, x₃.gens⟩ ⟨_, _, rfl, x₃.x.none ((Ext.push _ _).none (fresh_size _)), ⟨_, Heap.get?_push_size _ rfl⟩, (pk_vals hal _ _ _).mono fun _ _ => ER.mono x₅⟩
    cases step with
    | none =>
      refine wpAny_Subscript_Slice (T := "list") list_getitem_lookup (h Z s E _ m ad R fun v w s₁ hq x₁ hv => ?_) ht
      obtain ⟨lst, e, hlen, hq⟩ := hq
      refine wpAny_Slice (part_ok hq (R.ext x₁.x) fun l s₂ hq x₂ => part_ok hq ((R.ext x₁.x).ext x₂.x) fun u s₃ hq x₃ => ?_)
      rw [evalPart_none]
      exact wpAny_pure (fin l u none s₃ v w lst ((hv.mono x₂.x).mono x₃.x) e hlen hq.1 hq.2 ((x₁.trans x₂).trans x₃))
    | some st =>
      refine wpAny_Subscript_Slice_step (T := "list") list_getitem_lookup (h Z s E _ m ad R fun v w s₁ hq x₁ hv => ?_) ht
      obtain ⟨lst, e, hlen, hq⟩ := hq
      refine wpAny_Slice (part_ok hq (R.ext x₁.x) fun l s₂ hq x₂ => part_ok hq ((R.ext x₁.x).ext x₂.x) fun u s₃ hq x₃ => part_ok hq (((R.ext x₁.x).ext x₂.x).ext x₃.x) fun st' s₄ hq x₄ => ?_)
      exact fin l u st' s₄ v w lst (((hv.mono x₂.x).mono x₃.x).mono x₄.x) e hlen hq.1 hq.2 (((x₁.trans x₂).trans x₃).trans x₄)
end
section
open _root_.PySem _root_.PySem.W _root_.PySem.Calls _root_.PyProof.Rows _root_.PySem.Builtin _root_.PySem.Builtin.Str
set_option linter.unusedVariables false
set_option linter.deprecated false
set_option maxRecDepth 100000
variable {c : Cx} {f : Fm} {ρ : Loc}
structure FA (ρ : Loc) (ad : String → Addr) (a : Addr) : Prop where
  own : ∀ y o, ρ y = some (.own o) → ad y ≠ a
  pin : ∀ y b l, ρ y = some (.at b l) → b ≠ a
theorem FA.put {ad : String → Addr} {a a' : Addr} {x : String} {st : S} (F : FA ρ ad a) (h : ∀ o, st = .own o → a' ≠ a) (hat : ∀ b l, st ≠ .at b l) : FA (upd ρ x st) (adOf ad x a') a where
  own := fun y o e => by
    by_cases hy : y = x
    · subst hy
      rw [adOf_self]
      exact h o (Option.some.inj (upd_self.symm.trans e))
    · rw [upd_ne hy] at e; rw [adOf_ne hy]; exact F.own y o e
  pin := fun y b l e => by
    by_cases hy : y = x
    · subst hy; exact absurd (Option.some.inj (upd_self.symm.trans e)) (hat b l)
    · rw [upd_ne hy] at e; exact F.pin y b l e
theorem fa_of {Z : Addr → Obj → Prop} {h : Heap} {m ad} (R : Rel c f Z ρ h m ad) {a : Addr} (fr : h.get? a = none) : FA ρ ad a where
  own := fun y o e q => by
    obtain ⟨w', _, hs'⟩ := R.var y _ e
    obtain ⟨ob, hob⟩ := hs'.2.some
    rw [q, fr] at hob; cases hob
  pin := fun y b l e q => by
    obtain ⟨w', _, hw, hs'⟩ := R.var y _ e
    obtain ⟨ob, hob⟩ := hs'.some
    rw [q, fr] at hob; cases hob
/-- a fresh empty list waits to be stored -/
structure Wait (f : Fm) (Z : Addr → Obj → Prop) (ρ : Loc) (ad : String → Addr) (h : Heap) (a : Addr) : Prop where
  L : a ≠ f.L
  z : ∀ o, ¬ Z a o
  fa : FA ρ ad a
  pl : h.PlainList a #[]
theorem Wait.put {Z : Addr → Obj → Prop} {ad : String → Addr} {a a' : Addr} {x : String} {st : S} {h h' : Heap} (W : Wait f Z ρ ad h a) (hst : ∀ o, st = .own o → a' ≠ a) (hat : ∀ b l, st ≠ .at b l) (hs : Heap.SameBut f.L h h') : Wait f Z (upd ρ x st) (adOf ad x a') h' a where
  L := W.L
  z := W.z
  fa := W.fa.put hst hat
  pl := let ⟨n, e⟩ := W.pl; ⟨n, hs.extBut _ _ W.L e⟩
theorem put_val {Z : Addr → Obj → Prop} {s : Shared} {m ad} (R : Rel c f Z ρ s.heap m ad) {i : Int} {t : Tok} {x : String} {px : Pos} (hl : f.sc.names.lookup (Str.ofString x) = some .local) {E : Value → Shared → Prop} {Q : Unit → Shared → Prop}
    (h : ∀ h' m', Heap.SameBut f.L s.heap h' → Rel c f Z (upd ρ x (.val (.int i))) h' m' (adOf ad x 0) → Q () { s with heap := h', toks := s.toks + 1 }) : wpAny c.M f.A (assign (.Name (Str.ofString x) px) f.env (.int i t)) Q E s :=
  wpAny_assign_Name (store_local R (a := 0) (st := .val (.int i)) ⟨t, rfl⟩ (fun o e => nomatch e) (fun _ _ e => nomatch e) hl h)
theorem put_new {Z : Addr → Obj → Prop} {s : Shared} {m ad} (R : Rel c f Z ρ s.heap m ad) {a : Addr} (W : Wait f Z ρ ad s.heap a) {x : String} {px : Pos} (hl : f.sc.names.lookup (Str.ofString x) = some .local) {E : Value → Shared → Prop} {Q : Unit → Shared → Prop}
    (h : ∀ h' m', Heap.SameBut f.L s.heap h' → Rel c f Z (upd ρ x (.own (.list []))) h' m' (adOf ad x a) → Q () { s with heap := h', toks := s.toks + 1 }) : wpAny c.M f.A (assign (.Name (Str.ofString x) px) f.env (.ref a)) Q E s :=
  wpAny_assign_Name (store_local R (a := a) (st := .own (.list [])) ⟨rfl, #[], W.pl, trivial⟩ (fun o e => ⟨W.L, W.z, fun y o e _ => W.fa.own y o e, fun y b l e _ => W.fa.pin y b l e⟩) (fun _ _ e => nomatch e) hl h)
theorem eval_nil {M : Model} {A : Around} {s : Shared} {E : Value → Shared → Prop} {Q : Value → Shared → Prop} {env : Env} {p : Pos} (h : Q (.ref s.heap.objs.size) { s with heap := s.heap.push { cls := .type "list", data := .seq #[] } }) : wpAny M A (eval (.List [] p) env) Q E s :=
  wpAny_List (wpAny_items_nil ⟨Nat.zero_le _, h⟩)
theorem WS.asg5 {x1 x2 x3 x4 x5 : String} {p1 p2 p3 p4 p5 q1 q2 q3 q4 q5 tp vp pos : Pos} {i j : Int} {k1 k2 n n' : Nat} {Q : Fl → Loc → Prop} (h1 : f.sc.names.lookup (Str.ofString x1) = some .local) (h2 : f.sc.names.lookup (Str.ofString x2) = some .local) (h3 : f.sc.names.lookup (Str.ofString x3) = some .local)
    (h4 : f.sc.names.lookup (Str.ofString x4) = some .local) (h5 : f.sc.names.lookup (Str.ofString x5) = some .local)
    (q : Q .next (upd (upd (upd (upd (upd ρ x1 (.val (.int i))) x2 (.val (.int j))) x3 (.own (.list []))) x4 (.own (.list []))) x5 (.own (.list []))))
    (hs : swapsWithSole [.Tuple [.Name (Str.ofString x1) p1, .Name (Str.ofString x2) p2, .Name (Str.ofString x3) p3, .Name (Str.ofString x4) p4, .Name (Str.ofString x5) p5] n tp] (.Tuple [.Constant (.int i) k1 q1, .Constant (.int j) k2 q2, .List [] q3, .List [] q4, .List [] q5] n' vp) pos.line f.env = pure false := by rfl)
    (hw : swappedStores [.Tuple [.Name (Str.ofString x1) p1, .Name (Str.ofString x2) p2, .Name (Str.ofString x3) p3, .Name (Str.ofString x4) p4, .Name (Str.ofString x5) p5] n tp] (.Tuple [.Constant (.int i) k1 q1, .Constant (.int j) k2 q2, .List [] q3, .List [] q4, .List [] q5] n' vp) f.env = pure none := by rfl) :
    WS c f ρ (.Assign [.Tuple [.Name (Str.ofString x1) p1, .Name (Str.ofString x2) p2, .Name (Str.ofString x3) p3, .Name (Str.ofString x4) p4, .Name (Str.ofString x5) p5] n tp] (.Tuple [.Constant (.int i) k1 q1, .Constant (.int j) k2 q2, .List [] q3, .List [] q4, .List [] q5] n' vp) pos) Q :=
  fun Z s E Qs m ad R k => by
    refine wpAny_Assign_stores (wpAny_Tuple ?_) hs hw
    refine wpAny_items_cons (wpAny_Constant_int ?_) rfl
    refine wpAny_items_cons (wpAny_Constant_int ?_) rfl
    refine wpAny_items_cons (eval_nil ?_) rfl
    refine wpAny_items_cons (eval_nil ?_) rfl
    refine wpAny_items_cons (eval_nil ?_) rfl
    refine wpAny_items_nil ⟨(by show 5 ≤ sizeLine; decide), ?_⟩
    dsimp only
    generalize hg3 : s.heap.push { cls := .type "list", data := .seq #[] } = g3
    have z3 : g3.objs.size = s.heap.objs.size + 1 := by rw [← hg3, Heap.size_push]
    generalize hg4 : g3.push { cls := .type "list", data := .seq #[] } = g4
    have z4 : g4.objs.size = s.heap.objs.size + 2 := by rw [← hg4, Heap.size_push, z3]
    generalize hg5 : g4.push { cls := .type "list", data := .seq #[] } = g5
    have z5 : g5.objs.size = s.heap.objs.size + 3 := by rw [← hg5, Heap.size_push, z4]
    have y3 : Ext s.heap g3 := hg3 ▸ Ext.push _ _
    have y4 : Ext g3 g4 := hg4 ▸ Ext.push _ _
    have y5 : Ext g4 g5 := hg5 ▸ Ext.push _ _
    have l3 : g3.PlainList s.heap.objs.size #[] := ⟨0, hg3 ▸ Heap.get?_push_size _ rfl⟩
    have l4 : g4.PlainList g3.objs.size #[] := ⟨0, hg4 ▸ Heap.get?_push_size _ rfl⟩
    have l5 : g5.PlainList g4.objs.size #[] := ⟨0, hg5 ▸ Heap.get?_push_size _ rfl⟩
    have fr : ∀ a, s.heap.objs.size ≤ a → s.heap.get? a = none := fun a ha => by
      cases e : s.heap.get? a with
      | none => rfl
      | some o' => exact absurd (Heap.lt_size e) (Nat.not_lt.mpr ha)
    have hL : f.L < s.heap.objs.size := by obtain ⟨o, _, _, ho, _⟩ := R.ns; exact Heap.lt_size ho
    generalize hg6 : g5.push _ = g6
    have y6 : Ext g5 g6 := hg6 ▸ Ext.push _ _
    have ht : g6.IsTuple g5.objs.size #[.int i s.toks, .int j (s.toks + 1), .ref s.heap.objs.size, .ref g3.objs.size, .ref g4.objs.size] := ⟨_, hg6 ▸ Heap.get?_push_size _ rfl, rfl, 0, rfl⟩
    have hx : NamesAre [.Name (Str.ofString x1) p1, .Name (Str.ofString x2) p2, .Name (Str.ofString x3) p3, .Name (Str.ofString x4) p4, .Name (Str.ofString x5) p5] [x1, x2, x3, x4, x5] := .cons (.cons (.cons (.cons (.cons .nil))))
    obtain ⟨n1, n2⟩ := names_len (env := f.env) hx
    show wpAny c.M f.A (assign (.Tuple _ n tp) f.env (.ref g5.objs.size)) _ _ _
    refine wpAny_assign_Tuple R.room.handled ht (by rw [n1]; rfl) n2 fun h' hs' => ?_
    have Y : Ext g6 h' := fun b o e => hs' b o (Nat.ne_of_lt (Heap.lt_size e)) e
    have w0 : ∀ a, s.heap.objs.size ≤ a → h'.PlainList a #[] → Wait f Z ρ ad h' a := fun a ha hp => ⟨(Nat.ne_of_gt (Nat.lt_of_lt_of_le hL ha)), fun o z => (by have := R.z a o z; rw [fr a ha] at this; cases this), fa_of R (fr a ha), hp⟩
    have keep : ∀ {a g}, Heap.PlainList g a #[] → Ext g h' → h'.PlainList a #[] := fun hp x => let ⟨n, e⟩ := hp; ⟨n, x _ _ e⟩
    have W3 := w0 s.heap.objs.size (Nat.le_refl _) (keep l3 (((y4.trans y5).trans y6).trans Y))
    have W4 := w0 g3.objs.size (by rw [z3]; exact Nat.le_succ _) (keep l4 ((y5.trans y6).trans Y))
    have W5 := w0 g4.objs.size (by rw [z4]; exact Nat.le_add_right _ 2) (keep l5 (y6.trans Y))
    have d34 : s.heap.objs.size ≠ g3.objs.size := by rw [z3]; exact Nat.ne_of_lt (Nat.lt_succ_self _)
    have d35 : s.heap.objs.size ≠ g4.objs.size := by rw [z4]; exact Nat.ne_of_lt (Nat.lt_add_of_pos_right (by decide))
    have d45 : g3.objs.size ≠ g4.objs.size := by rw [z3, z4]; exact Nat.ne_of_lt (Nat.lt_succ_self _)
    have R₁ : Rel c f Z ρ h' m ad := R.ext (((((y3.trans y4).trans y5).trans y6).trans Y))
    generalize g3.objs.size = a4 at *
    generalize g4.objs.size = a5 at *
    generalize s.heap.objs.size = a3 at *
    show wpAny c.M f.A (holding _ (assign (.Name (Str.ofString x1) p1) f.env _) >>= fun _ => assignInOrder _ _) _ _ _
    refine wpAny_bind (wpAny_holding (put_val (s := ⟨h', s.gens, s.drawn, s.toks + 1 + 1, s.os⟩) R₁ h1 fun u1 m1 b1 R₁ => ?_))
    have W3 := W3.put (fun o e => nomatch e) (fun _ _ e => nomatch e) b1 (st := .val (.int i)) (x := x1) (a' := 0)
    have W4 := W4.put (fun o e => nomatch e) (fun _ _ e => nomatch e) b1 (st := .val (.int i)) (x := x1) (a' := 0)
    have W5 := W5.put (fun o e => nomatch e) (fun _ _ e => nomatch e) b1 (st := .val (.int i)) (x := x1) (a' := 0)
    show wpAny c.M f.A (holding _ (assign (.Name (Str.ofString x2) p2) f.env _) >>= fun _ => assignInOrder _ _) _ _ _
    refine wpAny_bind (wpAny_holding (put_val (s := ⟨u1, s.gens, s.drawn, s.toks + 1 + 1 + 1, s.os⟩) R₁ h2 fun u2 m2 b2 R₁ => ?_))
    have W3 := W3.put (fun o e => nomatch e) (fun _ _ e => nomatch e) b2 (st := .val (.int j)) (x := x2) (a' := 0)
    have W4 := W4.put (fun o e => nomatch e) (fun _ _ e => nomatch e) b2 (st := .val (.int j)) (x := x2) (a' := 0)
    have W5 := W5.put (fun o e => nomatch e) (fun _ _ e => nomatch e) b2 (st := .val (.int j)) (x := x2) (a' := 0)
    show wpAny c.M f.A (holding _ (assign (.Name (Str.ofString x3) p3) f.env _) >>= fun _ => assignInOrder _ _) _ _ _
    refine wpAny_bind (wpAny_holding (put_new (s := ⟨u2, s.gens, s.drawn, s.toks + 1 + 1 + 1 + 1, s.os⟩) R₁ W3 h3 fun u3 m3 b3 R₁ => ?_))
    have W4 := W4.put (fun o e => d34) (fun _ _ e => nomatch e) b3 (st := .own (.list [])) (x := x3) (a' := a3)
    have W5 := W5.put (fun o e => d35) (fun _ _ e => nomatch e) b3 (st := .own (.list [])) (x := x3) (a' := a3)
    show wpAny c.M f.A (holding _ (assign (.Name (Str.ofString x4) p4) f.env _) >>= fun _ => assignInOrder _ _) _ _ _
    refine wpAny_bind (wpAny_holding (put_new (s := ⟨u3, s.gens, s.drawn, s.toks + 1 + 1 + 1 + 1 + 1, s.os⟩) R₁ W4 h4 fun u4 m4 b4 R₁ => ?_))
    have W5 := W5.put (fun o e => d45) (fun _ _ e => nomatch e) b4 (st := .own (.list [])) (x := x4) (a' := a4)
    show wpAny c.M f.A (holding _ (assign (.Name (Str.ofString x5) p5) f.env _) >>= fun _ => assignInOrder _ _) _ _ _
    refine wpAny_bind (wpAny_holding (put_new (s := ⟨u4, s.gens, s.drawn, s.toks + 1 + 1 + 1 + 1 + 1 + 1, s.os⟩) R₁ W5 h5 fun u5 m5 b5 R₁ => ?_))
    refine wpAny_pure (k _ _ _ _ _ _ q rfl ⟨rfl, rfl⟩ R₁)
end
section
open _root_.PySem _root_.PySem.W _root_.PySem.Calls _root_.PyProof.Rows _root_.PySem.Builtin _root_.PySem.Builtin.Str
set_option linter.unusedVariables false
set_option linter.deprecated false
set_option maxRecDepth 100000
variable {c : Cx} {f : Fm} {ρ : Loc}
theorem CompS.of {scope : Scope} {caps : List String}
    (h1 : scope.names.all (fun y => y.2 != .cell && (y.2 != .local || scope.names.lookup y.1 == some .local) && (y.2 != .free || f.sc.names.lookup y.1 == some .cell)) = true)
    (h2 : caps.all (fun x => (relabel scope f.env).names.lookup (Str.ofString x) == some .cell && !(Str.ofString x == ("__classdict__" : Str))) = true) (hk : scope.kind = .function := by rfl) : CompS f scope caps := by
  rw [List.all_eq_true] at h1 h2
  simp only [Bool.and_eq_true, bne_iff_ne, Bool.or_eq_true, beq_iff_eq] at h1
  refine ⟨fun y hy => (h1 y hy).1.1, hk, fun y hy e => ?_, fun y hy e => ?_, fun x hx => ?_⟩
  · exact ((h1 y hy).1.2).resolve_left fun q => q e
  · exact ((h1 y hy).2).resolve_left fun q => q e
  · have := h2 x hx
    simp only [Bool.and_eq_true, beq_iff_eq, Bool.not_eq_true'] at this
    exact this
theorem CompTurn.name {f' : Fm} {ρc : Loc} {x : String} {px : Pos} {elt : Expr} {v : V} {y : Option V} (hp : Pr v = true) (hk : f'.sc.names.lookup (Str.ofString x) = some .local) (hle : ∀ y st, ρc y = some st → upd ρc x (.val v) y = some st)
    (h : WE c f' (upd ρc x (.val v)) elt fun u => y = some u ∧ Pr u = true) : CompTurn c f' ρc (.Name (Str.ofString x) px) elt [] v y := by
  refine ⟨_, AsgL.name hp hk, hle, ?_⟩
  show if true = true then WE c f' (upd ρc x (S.val v)) elt (fun u => y = some u ∧ Pr u = true) else y = none
  rw [if_pos rfl]; exact h
theorem big5 {n : Nat} (h : n ≤ 1000) : n ≤ 100000 := Nat.le_trans h (by decide)
noncomputable def mirN (o : Nat) : Nat := if o = 62 then 60 else if o = 60 then 62 else if o = 94 then 124 else 94
noncomputable def idxN (o : Nat) : Nat := if o = 62 then 0 else if o = 60 then 1 else if o = 94 then 2 else 3
noncomputable def isSign (o : Nat) : Bool := o == 62 || o == 60 || o == 94 || o == 124
theorem isSign_cases {o : Nat} (h : isSign o = true) : o = 62 ∨ o = 60 ∨ o = 94 ∨ o = 124 := by
  simp only [isSign, Bool.or_eq_true, beq_iff_eq] at h
  rcases h with ((h | h) | h) | h
  · exact .inl h
  · exact .inr (.inl h)
  · exact .inr (.inr (.inl h))
  · exact .inr (.inr (.inr h))
theorem sign_idx {o : Nat} (h : isSign o = true) : ∃ rest, occurrences ⟨([62, 60, 94, 124] : List Nat).toArray⟩ ⟨([o] : List Nat).toArray⟩ 0 4 1 = idxN o :: rest := by
  rcases isSign_cases h with rfl | rfl | rfl | rfl <;> exact ⟨[], by kernel_rfl⟩
noncomputable def othersN : List Nat := swapF [62, 60, 94, 124] 2 2
theorem others_get {o : Nat} (h : isSign o = true) : othersN[idxN o]? = some (mirN o) := by
  rcases isSign_cases h with rfl | rfl | rfl | rfl <;> rfl
noncomputable def turnedF (t : List Nat) : List Nat := swapF (t ++ t) (t ++ t).length 1
noncomputable def mirrorF (t : List Nat) : List Nat := (turnedF t).map mirN
noncomputable def cA (tw mi : List Nat) (half back s o : Int) : Bool := sl (some (s + half)) (some (o + half)) tw == sl (some (back - o)) (some (back - s)) mi
noncomputable def cB (tw mi : List Nat) (half back s o t : Int) : Bool := sl (some (o + half)) (some (t + half)) tw == sl (some (back - t)) (some (back - o)) mi
noncomputable def cC (tw mi : List Nat) (half back s t : Int) : Bool := sl (some (t + half)) (some (s + half + half)) tw == sl (some (back - (s + half))) (some (back - t)) mi
noncomputable def in2 (tw mi : List Nat) (half : Nat) (back s : Int) (j : Nat) : Bool := (List.range (half + 1 - j)).any fun i => cB tw mi half back s (s + (j : Int) * 1) (s + (j : Int) * 1 + (i : Int) * 1) && cC tw mi half back s (s + (j : Int) * 1 + (i : Int) * 1)
noncomputable def in1 (tw mi : List Nat) (half : Nat) (back s : Int) : Bool := (List.range (half + 1)).any fun j => cA tw mi half back s (s + (j : Int) * 1) && in2 tw mi half back s j
noncomputable def partedG (tw mi : List Nat) (half : Nat) (back : Int) : Bool := (List.range half).any fun k => in1 tw mi half back ((0 : Int) + (k : Int) * 1)
noncomputable def partedF (t : List Nat) : Bool := partedG (t ++ t) (mirrorF t) (t.length / 2) ((t ++ t).length : Nat)
theorem any_true {n : Nat} {p : Nat → Bool} {k : Nat} (hk : k < n) (h : p k = true) : (List.range n).any p = true := by
  rw [List.any_eq_true]; exact ⟨k, List.mem_range.mpr hk, h⟩
theorem any_false {n : Nat} {p : Nat → Bool} (h : ∀ k, k < n → p k = false) : (List.range n).any p = false := by
  rw [Bool.eq_false_iff]
  intro e
  rw [List.any_eq_true] at e
  obtain ⟨k, hk, e⟩ := e
  rw [h k (List.mem_range.mp hk)] at e; cases e
theorem fm_ord {l : List Nat} {g : V → Option V} (h : ∀ ch ∈ l, g (.str [ch]) = some (.int ch)) : (l.map fun ch => V.str [ch]).filterMap g = intl (l.map fun (ch : Nat) => (ch : Int)) := by
  induction l with
  | nil => rfl
  | cons a r ih =>
    rw [List.map_cons, List.filterMap_cons, h a (.head _), ih fun ch hc => h ch (.tail _ hc)]; rfl
theorem fm_mir {l : List Nat} {g : V → Option V} (h : ∀ o ∈ l, g (.int (o : Nat)) = some (.str [mirN o])) : (l.map fun (o : Nat) => V.int o).filterMap g = (l.map mirN).map fun ch => V.str [ch] := by
  induction l with
  | nil => rfl
  | cons a r ih =>
    rw [List.map_cons, List.filterMap_cons, h a (.head _), ih fun ch hc => h ch (.tail _ hc)]; rfl
end
section
open _root_.PySem _root_.PySem.W _root_.PySem.Calls _root_.PyProof.Rows _root_.PySem.Builtin _root_.PySem.Builtin.Str
set_option linter.unusedVariables false
set_option linter.unusedSimpArgs false
set_option linter.deprecated false
set_option maxRecDepth 100000
inductive PdA (tw mi : List Nat) (half : Nat) (back : Int) (k : Nat) (ρ : Loc) : Prop
  | mk (g1 : ρ "twice" = some (.val (.str tw))) (g2 : ρ "mirror" = some (.val (.str mi))) (g3 : ρ "half" = some (.val (.int half))) (g4 : ρ "back" = some (.val (.int back))) (g5 : ∀ k', k' < k → in1 tw mi half back ((0 : Int) + (k' : Nat) * 1) = false)
inductive PdB (tw mi : List Nat) (half : Nat) (back S : Int) (j : Nat) (ρ : Loc) : Prop
  | mk (g1 : ρ "twice" = some (.val (.str tw))) (g2 : ρ "mirror" = some (.val (.str mi))) (g3 : ρ "half" = some (.val (.int half))) (g4 : ρ "back" = some (.val (.int back))) (g5 : ρ "start" = some (.val (.int S))) (g6 : ρ "end" = some (.val (.int (S + half)))) (g7 : ∀ j' : Nat, j' < j → (cA tw mi half back S (S + (j' : Int) * 1) && in2 tw mi half back S j') = false)
inductive PdC (tw mi : List Nat) (half : Nat) (back S O : Int) (i : Nat) (ρ : Loc) : Prop
  | mk (g1 : ρ "twice" = some (.val (.str tw))) (g2 : ρ "mirror" = some (.val (.str mi))) (g3 : ρ "half" = some (.val (.int half))) (g4 : ρ "back" = some (.val (.int back))) (g5 : ρ "start" = some (.val (.int S))) (g6 : ρ "end" = some (.val (.int (S + half)))) (g7 : ρ "one" = some (.val (.int O))) (g8 : ∀ i' : Nat, i' < i → (cB tw mi half back S O (O + (i' : Int) * 1) && cC tw mi half back S (O + (i' : Int) * 1)) = false)
set_option maxHeartbeats 4000000 in
theorem parted_spec {c : Cx} (H : Here c) (n : Nat) (t : List Nat) (ht : t.length ≤ 100) (h1 : (t ++ t).all isSign = true) (h2 : (turnedF t).all isSign = true) (h0 : t ≠ []) : FSB c (n + 6) 230 [.str t] fun v => v = .bool (partedF t) := by
  refine' FSB.introC (xs := ["text"]) H.ok ?ho ?hcd ?hbind ?hx ?hxl rfl ?h ?hco ?hgen ?hk
  case ho => rw [H.K]; with_unfolding_all rfl
  case hcd => rw [H.K]; kernel_rfl
  case hbind =>
    intro ws hw
    obtain ⟨w, rfl⟩ := len_one hw
    with_unfolding_all rfl
  case hx => decide
  case hxl => decide
  case hco => rfl
  case hgen => rfl
  case hk => rfl
  case h =>
    intro L qual fa code A he
    have hlen : (t ++ t).length = t.length + t.length := List.length_append
    have h1' : ∀ x ∈ t ++ t, isSign x = true := List.all_eq_true.mp h1
    have h2' : ∀ x ∈ turnedF t, isSign x = true := List.all_eq_true.mp h2
    have small : ∀ x, isSign x = true → x < 256 := fun x hx => by rcases isSign_cases hx with rfl | rfl | rfl | rfl <;> decide
    have htl : (turnedF t).length = (t ++ t).length := by
      unfold turnedF swapF
      rw [foldl_len (swapRows_len _ _)]; simp
    have hpos : 0 < t.length := List.length_pos_iff.mpr h0
    refine WBB.cons (WSB.of (WS.asg (WE.bin (WE.name (by walk_at "lk") (WE.name (by walk_at "lk") ⟨_, Op.addS (x := t) (y := t) (by omega), _, rfl, ?_⟩))) (by walk_at "nk")))
    refine WBB.cons (WSB.asg (WEB.call (fa := 28) H (by rw [H.K]; kernel_rfl) (by kernel_rfl) ?_ (by kernel_rfl)) (by walk_at "nk"))
    refine WE.b1 (bi_bytes H) H.ok (by kernel_rfl) (WE.comp [] (fun v => match v with | .str [ch] => some (.int ch) | _ => none) (CompS.of (by kernel_rfl) rfl) (fun x hx => nomatch hx) (WE.name (by walk_at "lk") ⟨(t ++ t).map fun ch => .str [ch], rfl, by simp; omega, ?_, ?_⟩))
    · intro cl C he i v hv
      rw [List.getElem?_map] at hv
      cases q : (t ++ t)[i]? with
      | none => rw [q] at hv; cases hv
      | some ch =>
        rw [q] at hv; cases hv
        exact CompTurn.name rfl (by kernel_rfl) (cap_upd (by simp)) (WE.b1 (bi_ord H) H.ok (by kernel_rfl) (WE.name upd_self ⟨_, Op.ord, rfl, rfl⟩))
    rw [fm_ord (fun _ _ => rfl)]
    have eb : ((t ++ t).map fun (ch : Nat) => (ch : Int)).map Int.toNat = t ++ t := by
      rw [List.map_map]
      exact (List.map_congr_left fun x _ => Int.toNat_natCast x).trans (List.map_id _)
    refine ⟨_, Op.bytesL (l := (t ++ t).map fun (ch : Nat) => (ch : Int)) rfl (fun k hk => ?_) (by rw [List.length_map]; omega), ?_⟩
    · obtain ⟨x, hx, rfl⟩ := List.mem_map.mp hk
      have := small x (h1' x hx); omega
    rw [eb]
    refine WE.b1 (bi_len H) H.ok (by kernel_rfl) (WE.name (by walk_at "lk") ⟨_, Op.lenS (x := t ++ t) (by omega), rfl, ?_⟩)
    refine FSB.mono (byteswap_spec H (n + 2) (t ++ t) (t ++ t).length 1 (by omega) (by omega) (by omega) (fun x hx => small x (h1' x hx)) (by omega)) ?_
    rintro v rfl
    refine ⟨_, rfl, ?_⟩
    refine WBB.cons (WSB.asg (WEB.call (fa := 28) H (by rw [H.K]; kernel_rfl) (by kernel_rfl) ?_ (by kernel_rfl)) (.inr ⟨by kernel_rfl, by kernel_rfl⟩))
    refine WE.bytes (WE.int ⟨rfl, ?_⟩)
    refine FSB.mono (byteswap_spec H (n + 2) [62, 60, 94, 124] 2 2 (by decide) (by decide) (by decide) (by decide) (by decide)) ?_
    rintro v rfl
    refine ⟨_, rfl, ?_⟩
    refine WBB.cons (WSB.of (WS.asg (WE.methS (id := "str.join") GM.join (WE.str ⟨[], rfl, ?_⟩)) (by walk_at "nk")))
    refine WE.comp ["others"] (fun v => match v with | .int o => some (.str [mirN o.toNat]) | _ => none) (CompS.of (by kernel_rfl) (by kernel_rfl)) (fun x hx st e => ?_) (WE.name (by walk_at "lk") ⟨(turnedF t).map fun (o : Nat) => .int o, rfl, by simp; omega, ?_, ?_⟩)
    · rw [List.mem_singleton] at hx; subst hx
      rw [upd_self] at e; cases e; rfl
    · intro cl C he i v hv
      rw [List.getElem?_map] at hv
      cases q : (turnedF t)[i]? with
      | none => rw [q] at hv; cases hv
      | some o =>
        rw [q] at hv; cases hv
        have ho : isSign o = true := h2' o (List.mem_of_getElem? q)
        obtain ⟨rest, hr⟩ := sign_idx ho
        have hm : mirN o < 256 := by rcases isSign_cases ho with rfl | rfl | rfl | rfl <;> decide
        refine CompTurn.name rfl (by kernel_rfl) (cap_upd (by simp)) (WE.b1 (bi_chr H) H.ok (by kernel_rfl) (WE.sub (WE.name ((upd_ne (by decide)).trans (capLoc_get (by simp) upd_self)) (WE.methS (id := "str.index") GM.index (WE.str ⟨[62, 60, 94, 124], rfl, ?_⟩)))))
        refine WE.b1 (bi_chr H) H.ok (by kernel_rfl) (WE.name upd_self ⟨_, Op.chr (by have := small o ho; omega), _, Op.index (y := [o]) hr, _, Op.itemB (others_get ho) (by decide), _, Op.chr (by omega), ?_, rfl⟩)
        rfl
    rw [fm_mir (fun o _ => by simp)]
    refine ⟨_, Op.join0 (l := mirrorF t) rfl (by unfold mirrorF; rw [List.length_map]; omega), _, rfl, ?_⟩
    refine WBB.cons (WSB.of (WS.asgS ?_ (by walk_at "nk") (by walk_at "nk") (hw := ?hw)))
    case hw => kernel_rfl
    refine WE.tup ?_
    refine WE.bin (WE.b1 (bi_len H) H.ok (by kernel_rfl) (WE.name (by walk_at "lk") ⟨_, Op.lenS (x := t) (by omega), WE.int ⟨_, Op.fdiv (by decide) (by decide), ?_⟩⟩))
    refine WE.b1 (bi_len H) H.ok (by kernel_rfl) (WE.name (by walk_at "lk") ⟨_, Op.lenS (x := t ++ t) (by omega), rfl, by simp, _, _, rfl, rfl, rfl, ?_⟩)
    have eh : (t.length : Int).fdiv 2 = ((t.length / 2 : Nat) : Int) := by
      rw [Int.fdiv_eq_ediv_of_nonneg _ (by decide)]; omega
    rw [eh]
    have hres : partedF t = partedG (t ++ t) (mirrorF t) (t.length / 2) ((t ++ t).length : Nat) := rfl
    rw [hres]
    have hml : (mirrorF t).length = (t ++ t).length := by unfold mirrorF; rw [List.length_map]; exact htl
    have hhalf : t.length / 2 ≤ 100 := by omega
    generalize t.length / 2 = half at *
    generalize hbk : (((t ++ t).length : Nat) : Int) = back at *
    have hbl : 0 ≤ back ∧ back ≤ 1000 := by omega
    have htwl : (t ++ t).length ≤ 1000 := by omega
    have hmil : (mirrorF t).length ≤ 1000 := by omega
    generalize mirrorF t = mi at *
    generalize t ++ t = tw at *
    refine WBB.of (WB.cons (WS.for_ (WE.b1 (bi_range H) H.ok (by kernel_rfl) (WE.name (by walk_at "lk") ⟨_, Op.range1 (b := (half : Int)) (by omega), rfl, _, rfl, ?_⟩))))
    rw [Int.toNat_natCast]
    refine ⟨PdA tw mi half back, ⟨by walk_at "lk", by walk_at "lk", by walk_at "lk", by walk_at "lk", fun _ h => absurd h (Nat.not_lt_zero _)⟩, ?_, ?_⟩
    · rintro k v ρ hk ⟨g1, g2, g3, g4, g5⟩
      obtain ⟨hkl, rfl⟩ := rng_get' hk
      refine ⟨_, AsgOk.name rfl (by walk_at "nk"), ?_⟩
      generalize hS : ((0 : Int) + (k : Nat) * 1) = S
      have hSb : 0 ≤ S ∧ S ≤ 100 := by omega
      refine WB.cons (WS.asg (WE.bin (WE.name (by walk_at "lk") (WE.name (by walk_at "lk") ⟨_, Op.add _ _, _, rfl, ?_⟩))) (by walk_at "nk"))
      refine WB.cons (WS.for_ (WE.b2 (bi_range H) H.ok (by kernel_rfl) (WE.name (by walk_at "lk") (WE.bin (WE.name (by walk_at "lk") (WE.int ⟨_, Op.add _ _, _, Op.range2 (a := S) (b := S + half + 1) (by omega) (by omega), rfl, _, rfl, ?_⟩))))))
      have e1 : (S + half + 1 - S).toNat = half + 1 := by omega
      rw [e1]
      refine ⟨PdB tw mi half back S, ⟨by walk_at "lk", by walk_at "lk", by walk_at "lk", by walk_at "lk", by walk_at "lk", by walk_at "lk", fun _ h => absurd h (Nat.not_lt_zero _)⟩, ?_, ?_⟩
      · rintro j v ρ hj ⟨k1, k2, k3, k4, k5, k6, k7⟩
        obtain ⟨hjl, rfl⟩ := rng_get' hj
        refine ⟨_, AsgOk.name rfl (by walk_at "nk"), ?_⟩
        generalize hO : (S + (j : Nat) * 1) = O at *
        refine WB.cons (WS.ite (WT.cmp ?_))
        refine WE.slice (WE.name (by walk_at "lk") ⟨tw, rfl, big5 htwl, WE.name (by walk_at "lk") ⟨_, rfl, WE.bin (WE.name (by walk_at "lk") (WE.name (by walk_at "lk") ⟨_, Op.add _ _, _, rfl, ?_⟩))⟩⟩)
        refine WE.slice (WE.name (by walk_at "lk") ⟨mi, rfl, big5 hmil, WE.bin (WE.name (by walk_at "lk") (WE.name (by walk_at "lk") ⟨_, Op.sub _ _, _, rfl, WE.bin (WE.name (by walk_at "lk") (WE.name (by walk_at "lk") ⟨_, Op.sub _ _, _, rfl, _, Op.eqS _ _, ?_⟩))⟩))⟩)
        rw [show (sl (some (S + half)) (some (O + half)) tw == sl (some (back - O)) (some (back - S)) mi) = cA tw mi half back S O from rfl]
        by_cases hA : cA tw mi half back S O = true
        · rw [if_pos hA]
          refine WB.cons (WS.for_ (WE.b2 (bi_range H) H.ok (by kernel_rfl) (WE.name (by walk_at "lk") (WE.bin (WE.name (by walk_at "lk") (WE.int ⟨_, Op.add _ _, _, Op.range2 (a := O) (b := S + half + 1) (by omega) (by omega), rfl, _, rfl, ?_⟩))))))
          have e2 : (S + half + 1 - O).toNat = half + 1 - j := by omega
          rw [e2]
          refine ⟨PdC tw mi half back S O, ⟨by walk_at "lk", by walk_at "lk", by walk_at "lk", by walk_at "lk", by walk_at "lk", by walk_at "lk", by walk_at "lk", fun _ h => absurd h (Nat.not_lt_zero _)⟩, ?_, ?_⟩
          · rintro i v ρ hi ⟨l1, l2, l3, l4, l5, l6, l7, l8⟩
            obtain ⟨hil, rfl⟩ := rng_get' hi
            refine ⟨_, AsgOk.name rfl (by walk_at "nk"), ?_⟩
            generalize hT : (O + (i : Nat) * 1) = T at *
            refine WB.cons (WS.ite (WT.bool (WAll.and_cons (WT.cmp ?_))))
            refine WE.slice (WE.name (by walk_at "lk") ⟨tw, rfl, big5 htwl, WE.bin (WE.name (by walk_at "lk") (WE.name (by walk_at "lk") ⟨_, Op.add _ _, _, rfl, WE.bin (WE.name (by walk_at "lk") (WE.name (by walk_at "lk") ⟨_, Op.add _ _, _, rfl, ?_⟩))⟩))⟩)
            refine WE.slice (WE.name (by walk_at "lk") ⟨mi, rfl, big5 hmil, WE.bin (WE.name (by walk_at "lk") (WE.name (by walk_at "lk") ⟨_, Op.sub _ _, _, rfl, WE.bin (WE.name (by walk_at "lk") (WE.name (by walk_at "lk") ⟨_, Op.sub _ _, _, rfl, _, Op.eqS _ _, ?_⟩))⟩))⟩)
            rw [show (sl (some (O + half)) (some (T + half)) tw == sl (some (back - T)) (some (back - O)) mi) = cB tw mi half back S O T from rfl]
            have next : (cB tw mi half back S O T && cC tw mi half back S T) = false → ∀ i' : Nat, i' < i + 1 → (cB tw mi half back S O (O + (i' : Int) * 1) && cC tw mi half back S (O + (i' : Int) * 1)) = false := by
              intro hf i' hi'
              rcases Nat.lt_succ_iff_lt_or_eq.mp hi' with h | rfl
              · exact l8 i' h
              · rw [hT]; exact hf
            by_cases hB : cB tw mi half back S O T = true
            · rw [if_pos hB]
              refine WAll.and_cons (WT.cmp ?_)
              refine WE.slice (WE.name (by walk_at "lk") ⟨tw, rfl, big5 htwl, WE.bin (WE.name (by walk_at "lk") (WE.name (by walk_at "lk") ⟨_, Op.add _ _, _, rfl, WE.bin (WE.name (by walk_at "lk") (WE.name (by walk_at "lk") ⟨_, Op.add _ _, _, rfl, ?_⟩))⟩))⟩)
              refine WE.slice (WE.name (by walk_at "lk") ⟨mi, rfl, big5 hmil, WE.bin (WE.name (by walk_at "lk") (WE.name (by walk_at "lk") ⟨_, Op.sub _ _, _, rfl, WE.bin (WE.name (by walk_at "lk") (WE.name (by walk_at "lk") ⟨_, Op.sub _ _, _, rfl, _, Op.eqS _ _, ?_⟩))⟩))⟩)
              rw [show (sl (some (T + half)) (some (S + half + half)) tw == sl (some (back - (S + half))) (some (back - T)) mi) = cC tw mi half back S T from rfl]
              by_cases hC : cC tw mi half back S T = true
              · rw [if_pos hC]
                refine WAll.and_nil ?_
                simp only [if_true]
                refine WB.cons (WS.ret (WE.true_ ?_))
                show V.bool true = V.bool (partedG tw mi half back)
                congr 1
                refine (any_true hkl ?_).symm
                refine any_true (k := j) (by omega) ?_
                rw [hS, hO, hA, Bool.true_and]
                refine any_true (k := i) (by omega) ?_
                rw [hO, hT, hB, hC]; rfl
              · rw [if_neg hC]
                simp only [Bool.false_eq_true, if_false]
                refine WB.nil (WB.nil ⟨by walk_at "lk", by walk_at "lk", by walk_at "lk", by walk_at "lk", by walk_at "lk", by walk_at "lk", by walk_at "lk", next ?_⟩)
                rw [Bool.eq_false_iff.mpr hC, Bool.and_false]
            · rw [if_neg hB]
              simp only [Bool.false_eq_true, if_false]
              refine WB.nil (WB.nil ⟨by walk_at "lk", by walk_at "lk", by walk_at "lk", by walk_at "lk", by walk_at "lk", by walk_at "lk", by walk_at "lk", next ?_⟩)
              rw [Bool.eq_false_iff.mpr hB, Bool.false_and]
          · rintro ρ ⟨l1, l2, l3, l4, l5, l6, l7, l8⟩
            refine WB.nil (WB.nil (WB.nil ⟨by walk_at "lk", by walk_at "lk", by walk_at "lk", by walk_at "lk", by walk_at "lk", by walk_at "lk", fun j' hj' => ?_⟩))
            rcases Nat.lt_succ_iff_lt_or_eq.mp hj' with h | rfl
            · exact k7 j' h
            · rw [Bool.and_eq_false_iff]; right
              refine any_false fun i' hi' => ?_
              rw [hO]
              exact l8 i' (by simpa using hi')
        · rw [if_neg hA]
          refine WB.nil (WB.nil ⟨by walk_at "lk", by walk_at "lk", by walk_at "lk", by walk_at "lk", by walk_at "lk", by walk_at "lk", fun j' hj' => ?_⟩)
          rcases Nat.lt_succ_iff_lt_or_eq.mp hj' with h | rfl
          · exact k7 j' h
          · rw [hO, Bool.eq_false_iff.mpr hA, Bool.false_and]
      · rintro ρ ⟨k1, k2, k3, k4, k5, k6, k7⟩
        refine WB.nil (WB.nil ⟨by walk_at "lk", by walk_at "lk", by walk_at "lk", by walk_at "lk", fun k' hk' => ?_⟩)
        rcases Nat.lt_succ_iff_lt_or_eq.mp hk' with h | rfl
        · exact g5 k' h
        · rw [hS]
          refine any_false fun j' hj' => ?_
          exact k7 j' (by simpa using hj')
    · rintro ρ ⟨g1, g2, g3, g4, g5⟩
      refine WB.nil (WB.cons (WS.ret (WE.true_ ?_)))
      show V.bool false = V.bool (partedG tw mi half back)
      congr 1
      refine (any_false fun k' hk' => ?_).symm
      exact g5 k' (by simpa using hk')
end
section
open _root_.PySem _root_.PySem.W _root_.PySem.Calls _root_.PyProof.Rows _root_.PySem.Builtin _root_.PySem.Builtin.Str
set_option linter.unusedVariables false
set_option linter.deprecated false
set_option maxRecDepth 100000
noncomputable def wordOf (rest : List Nat) : List Nat := if (tokTab.lookup (sl none (some 2) rest)).isSome = true then sl none (some 2) rest else sl none (some 1) rest
noncomputable def moveTab : List (Int × Int) := [(20, -1), (21, 1), (33, -2), (34, 2)]
noncomputable def walkRest : Nat → List Nat → Int → Option Int
  | 0, rest, across => if rest.isEmpty then some across else none
  | n + 1, rest, across => if rest.isEmpty then some across else match tokTab.lookup (wordOf rest) with
    | none => none
    | some i => walkRest n (sl (some ((wordOf rest).length : Int)) none rest) (across + (moveTab.lookup i).getD 0)
noncomputable abbrev RSt := Int × Int × List (Int × Int) × List (Int × Int)
noncomputable def stepUp (t across height : Int) (rights : List (Int × Int)) : Int × List (Int × Int) := if t = 32 then (height + 1, rights ++ [(height, across)]) else (height, rights)
noncomputable def stepDown (t across height : Int) (lefts : List (Int × Int)) : Int × List (Int × Int) := if t = 18 then (height - 1, lefts ++ [(height - 1, across)]) else (height, lefts)
noncomputable def rowStep (st : RSt) (row : List Nat) : Option RSt :=
  match walkRest row.length (sl none (some (-1)) row) st.1 with
  | none => none
  | some across => match tokTab.lookup (sl (some (-1)) none row) with
    | none => none
    | some t => if row.length ≤ 1000 ∧ st.2.2.1.length ≤ 1000 ∧ st.2.2.2.length ≤ 1000 then
        let u := stepUp t across st.2.1 st.2.2.2
        let d := stepDown t across u.1 st.2.2.1
        some (across, d.1, d.2, u.2)
      else none
noncomputable def rowsFold : List (List Nat) → RSt → Option RSt
  | [], st => some st
  | r :: rs, st => match rowStep st r with
    | none => none
    | some st' => rowsFold rs st'
noncomputable def endsOf (rights : List (Int × Int)) (level left : Int) : List Int := rights.filterMap fun p => if (p.1 == level && decide (left < p.2)) = true then some p.2 else none
noncomputable def spotsOf (level left e : Int) : List Int := (List.range (e - left).toNat).map fun (k : Nat) => 100 * (left + k * 1) + level
noncomputable def endStep (level left : Int) (spots : List Int) (e : Int) : List Int := spots ++ spotsOf level left e
noncomputable def okEnd (left : Int) (spots : List Int) (e : Int) : Bool := decide (-1000 ≤ left ∧ left ≤ 1000 ∧ -1000 ≤ e ∧ e ≤ 1000 ∧ spots.length ≤ 1000)
noncomputable def endsFold (level left : Int) : List Int → List Int → Option (List Int)
  | [], spots => some spots
  | e :: es, spots => if okEnd left spots e = true then endsFold level left es (endStep level left spots e) else none
noncomputable def leftStep (rights : List (Int × Int)) (spots : List Int) (p : Int × Int) : Option (List Int) :=
  if (endsOf rights p.1 p.2).length < 64 then endsFold p.1 p.2 (pk none (some 1) none (isort (endsOf rights p.1 p.2))) spots else none
noncomputable def leftsFold (rights : List (Int × Int)) : List (Int × Int) → List Int → Option (List Int)
  | [], spots => some spots
  | p :: ps, spots => match leftStep rights spots p with
    | none => none
    | some s' => leftsFold rights ps s'
noncomputable def readF (rows : List (List Nat)) : Option (List Int) :=
  match rowsFold rows (0, 0, [], []) with
  | none => none
  | some st => if st.2.2.2.length ≤ 1000 ∧ st.2.2.1.length ≤ 1000 then leftsFold st.2.2.2 st.2.2.1 [] else none
noncomputable abbrev pairsV (l : List (Int × Int)) : List V := l.map fun p => V.tup [.int p.1, .int p.2]
noncomputable def endG (level left : Int) (v : V) : Option V := match v with
  | .tup [.int a, .int e] => if (a == level && decide (left < e)) = true then some (.int e) else none
  | _ => none
theorem fm_ends (level left : Int) : ∀ rights : List (Int × Int), (pairsV rights).filterMap (endG level left) = intl (endsOf rights level left)
  | [] => rfl
  | p :: r => by
    have ih := fm_ends level left r
    unfold endsOf at ih ⊢
    rw [show pairsV (p :: r) = V.tup [.int p.1, .int p.2] :: pairsV r from rfl, List.filterMap_cons, List.filterMap_cons]
    by_cases h : (p.1 == level && decide (left < p.2)) = true
    · rw [show endG level left (.tup [.int p.1, .int p.2]) = some (.int p.2) from if_pos h, if_pos h, ih]; rfl
    · rw [show endG level left (.tup [.int p.1, .int p.2]) = none from if_neg h, if_neg h]; exact ih
noncomputable def spotG (level : Int) (v : V) : Option V := match v with
  | .int k => some (.int (100 * k + level))
  | _ => none
theorem fm_spots (level left e : Int) : ((List.range (e - left).toNat).map fun (k : Nat) => V.int (left + k * 1)).filterMap (spotG level) = intl (spotsOf level left e) := by
  unfold spotsOf
  generalize (List.range (e - left).toNat) = l
  induction l with
  | nil => rfl
  | cons a r ih => rw [List.map_cons, List.filterMap_cons, ih]; rfl
theorem intl_app (a b : List Int) : intl a ++ intl b = intl (a ++ b) := by simp [intl]
theorem pk_intl (lo hi st : Option Int) (l : List Int) : pk lo hi st (intl l) = intl (pk lo hi st l) := by
  have hl : (intl l).length = l.length := by simp [intl]
  unfold pk
  rw [hl]
  generalize sliceRange _ _ _ = ks
  induction ks with
  | nil => rfl
  | cons k ks ih =>
    rw [List.filterMap_cons, List.filterMap_cons]
    have : (intl l)[k]? = (l[k]?).map V.int := by unfold intl; rw [List.getElem?_map]
    rw [this]
    cases l[k]? with
    | none => exact ih
    | some x => simp only [Option.map_some]; rw [ih]; rfl
end
section
open _root_.PySem _root_.PySem.W _root_.PySem.Calls _root_.PyProof.Rows _root_.PySem.Builtin _root_.PySem.Builtin.Str
set_option linter.unusedVariables false
set_option linter.unusedSimpArgs false
set_option linter.deprecated false
set_option maxRecDepth 100000
theorem sl_len {α : Type} (lo hi : Option Int) (x : List α) : (sl lo hi x).length ≤ x.length := by
  exact Nat.le_trans (List.length_take_le' _ _) (by rw [List.length_drop]; exact Nat.sub_le _ _)
theorem walkRest_nil {m : Nat} {rest : List Nat} {a b : Int} (h : walkRest m rest a = some b) (he : rest.isEmpty = true) : a = b := by
  cases m <;> (unfold walkRest at h; rw [if_pos he] at h; exact Option.some.inj h)
theorem pairsV_snoc (l : List (Int × Int)) (a b : Int) : pairsV l ++ [.tup [.int a, .int b]] = pairsV (l ++ [(a, b)]) := by simp [pairsV]
inductive RdA (rows : List (List Nat)) (fin : RSt) (k : Nat) (ρ : Loc) : Prop
  | mk (st : RSt) (g1 : ρ "across" = some (.val (.int st.1))) (g2 : ρ "height" = some (.val (.int st.2.1))) (g3 : ρ "lefts" = some (.own (.list (pairsV st.2.2.1)))) (g4 : ρ "rights" = some (.own (.list (pairsV st.2.2.2)))) (g5 : ρ "spots" = some (.own (.list []))) (g6 : rowsFold (rows.drop k) st = some fin)
inductive RdB (row : List Nat) (hh : Int) (ls rs : List (Int × Int)) (ac' : Int) (m : Nat) (ρ : Loc) : Prop
  | mk (rest : List Nat) (a : Int) (g1 : ρ "rest" = some (.val (.str rest))) (g2 : ρ "across" = some (.val (.int a))) (g3 : ρ "row" = some (.val (.str row))) (g4 : ρ "height" = some (.val (.int hh))) (g5 : ρ "lefts" = some (.own (.list (pairsV ls)))) (g6 : ρ "rights" = some (.own (.list (pairsV rs)))) (g7 : ρ "spots" = some (.own (.list []))) (g8 : walkRest m rest a = some ac') (g9 : rest.length ≤ 1000)
inductive RdM (row : List Nat) (a h : Int) (ls rs : List (Int × Int)) (fl : Fl) (ρ' : Loc) : Prop
  | mk (g1 : fl = .next) (g2 : ρ' "across" = some (.val (.int a))) (g3 : ρ' "row" = some (.val (.str row))) (g4 : ρ' "height" = some (.val (.int h))) (g5 : ρ' "lefts" = some (.own (.list (pairsV ls)))) (g6 : ρ' "rights" = some (.own (.list (pairsV rs)))) (g7 : ρ' "spots" = some (.own (.list [])))
inductive RdC (a : Addr) (ls rs : List (Int × Int)) (r : List Int) (k : Nat) (ρ : Loc) : Prop
  | mk (sp : List Int) (g1 : ρ "lefts" = some (.at a (pairsV ls))) (g2 : ρ "rights" = some (.own (.list (pairsV rs)))) (g3 : ρ "spots" = some (.own (.list (intl sp)))) (g4 : leftsFold rs (ls.drop k) sp = some r)
inductive RdD (a : Addr) (ls rs : List (Int × Int)) (level left : Int) (es sp' : List Int) (j : Nat) (ρ : Loc) : Prop
  | mk (s1 : List Int) (g1 : ρ "lefts" = some (.at a (pairsV ls))) (g2 : ρ "rights" = some (.own (.list (pairsV rs)))) (g3 : ρ "spots" = some (.own (.list (intl s1)))) (g4 : ρ "level" = some (.val (.int level))) (g5 : ρ "left" = some (.val (.int left))) (g6 : endsFold level left (es.drop j) s1 = some sp')
set_option maxHeartbeats 4000000 in
theorem read_spec {c : Cx} (H : Here c) (n : Nat) (rows : List (List Nat)) (r : List Int) (hr : readF rows = some r) : FS c (n + 4) 218 [.lst (rows.map V.str)] fun v => v = .new (intl r) := by
  refine' FS.introC (xs := ["rows"]) H.ok ?ho ?hcd ?hbind ?hx ?hxl rfl ?h ?hco ?hgen ?hk
  case ho => rw [H.K]; with_unfolding_all rfl
  case hcd => rw [H.K]; kernel_rfl
  case hbind =>
    intro ws hw
    obtain ⟨w, rfl⟩ := len_one hw
    with_unfolding_all rfl
  case hx => decide
  case hxl => decide
  case hco => rfl
  case hgen => rfl
  case hk => rfl
  case h =>
    intro L qual fa code A he
    refine WB.cons (WS.asg5 (by kernel_rfl) (by kernel_rfl) (by kernel_rfl) (by kernel_rfl) (by kernel_rfl) ?_ (hw := ?hw))
    case hw => kernel_rfl
    unfold readF at hr
    cases hf : rowsFold rows (0, 0, [], []) with
    | none => rw [hf] at hr; cases hr
    | some fin =>
      rw [hf] at hr
      refine WB.cons (WS.for_arg (l := rows.map V.str) (by walk_at "lk") ?_)
      refine ⟨RdA rows fin,
        ⟨(0, 0, [], []), by walk_at "lk", by walk_at "lk", by walk_at "lk", by walk_at "lk", by walk_at "lk", hf⟩, ?_, ?_⟩
      · rintro k v ρ hk ⟨⟨ac, hh, ls, rs⟩, g1, g2, g3, g4, g5, g6⟩
        rw [List.getElem?_map] at hk
        cases q : rows[k]? with
        | none => rw [q] at hk; cases hk
        | some row =>
          rw [q] at hk; cases hk
          have hkl : k < rows.length := (List.getElem?_eq_some_iff.mp q).1
          rw [List.drop_eq_getElem_cons hkl, (List.getElem?_eq_some_iff.mp q).2] at g6
          unfold rowsFold at g6
          cases hs : rowStep (ac, hh, ls, rs) row with
          | none => rw [hs] at g6; cases g6
          | some st' =>
            rw [hs] at g6
            unfold rowStep at hs
            dsimp only at hs
            cases hw : walkRest row.length (sl none (some (-1)) row) ac with
            | none => rw [hw] at hs; cases hs
            | some ac' =>
              rw [hw] at hs
              dsimp only at hs
              cases htk : tokTab.lookup (sl (some (-1)) none row) with
              | none => rw [htk] at hs; cases hs
              | some t =>
                rw [htk] at hs
                dsimp only at hs
                split at hs
                · rename_i hb
                  cases hs
                  refine ⟨_, AsgOk.name rfl (by walk_at "nk"), ?_⟩
                  refine WB.cons (WS.asg (WE.slice (WE.name (by walk_at "lk") ⟨row, rfl, Nat.le_trans hb.1 (by decide), WE.un (WE.int ⟨_, Op.neg _, _, rfl, _, rfl, ?_⟩)⟩)) (by walk_at "nk"))
                  refine WB.cons (WS.while_ (RdB row hh ls rs ac') row.length
                    ⟨sl none (some (-1)) row, ac, by walk_at "lk", by walk_at "lk", by walk_at "lk", by walk_at "lk", by walk_at "lk", by walk_at "lk", by walk_at "lk", hw, ?_⟩ ?_)
                  · exact Nat.le_trans (sl_len _ _ _) hb.1
                  · rintro m ρ ⟨rest, a, k1, k2, k3, k4, k5, k6, k7, k8, k9⟩
                    refine WT.value (WE.name (by walk_at "lk") ⟨_, Op.ts (x := rest) (by omega), ?_⟩)
                    by_cases he : rest.isEmpty = true
                    · have hae := walkRest_nil k8 he
                      subst hae
                      simp only [he, Bool.not_true, Bool.false_eq_true, if_false]
                      refine WB.nil ?_
                      refine WB.cons (WX.mono (Q := RdM row a (stepUp t a hh rs).1 ls (stepUp t a hh rs).2) ?_ ?_)
                      · refine WS.ite (WT.cmp (WE.tokAt H (by kernel_rfl) (WE.slice (WE.name (by walk_at "lk") ⟨row, rfl, Nat.le_trans hb.1 (by decide), WE.un (WE.int ⟨_, Op.neg _, _, rfl, ?_⟩)⟩))))
                        refine ⟨_, t, rfl, htk, WE.int ⟨_, Op.eq _ _, ?_⟩⟩
                        by_cases h32 : t = 32
                        · rw [if_pos (by simp [h32])]
                          rw [show stepUp t a hh rs = (hh + 1, rs ++ [(hh, a)]) from if_pos h32]
                          refine WB.cons (WS.append (l := pairsV rs) (by walk_at "lk") (by simp; omega) (WE.tup (WE.name (by walk_at "lk") (WE.name (by walk_at "lk") ⟨rfl, by simp, rfl, ?_⟩))))
                          refine WB.cons (WS.aug (by walk_at "lk") (WE.int ⟨_, _, Op.iadd _ _, rfl, ?_⟩) (by walk_at "nk"))
                          exact WB.nil ⟨rfl, by walk_at "lk", by walk_at "lk", by walk_at "lk", by walk_at "lk", by rw [← pairsV_snoc]; walk_at "lk", by walk_at "lk"⟩
                        · rw [if_neg (by simp [h32])]
                          rw [show stepUp t a hh rs = (hh, rs) from if_neg h32]
                          exact WB.nil ⟨rfl, by walk_at "lk", by walk_at "lk", by walk_at "lk", by walk_at "lk", by walk_at "lk", by walk_at "lk"⟩
                      rintro fl ρ' ⟨rfl, l1, l2, l3, l4, l5, l6⟩
                      refine WB.cons ?_
                      generalize stepUp t a hh rs = U at *
                      refine WS.ite (WT.cmp (WE.tokAt H (by kernel_rfl) (WE.slice (WE.name (by walk_at "lk") ⟨row, rfl, Nat.le_trans hb.1 (by decide), WE.un (WE.int ⟨_, Op.neg _, _, rfl, ?_⟩)⟩))))
                      refine ⟨_, t, rfl, htk, WE.int ⟨_, Op.eq _ _, ?_⟩⟩
                      by_cases h18 : t = 18
                      · rw [if_pos (by simp [h18])]
                        rw [show stepDown t a U.1 ls = (U.1 - 1, ls ++ [(U.1 - 1, a)]) from if_pos h18] at g6
                        refine WB.cons (WS.aug (by walk_at "lk") (WE.int ⟨_, _, Op.isub _ _, rfl, ?_⟩) (by walk_at "nk"))
                        refine WB.cons (WS.append (l := pairsV ls) (by walk_at "lk") (by simp; omega) (WE.tup (WE.name (by walk_at "lk") (WE.name (by walk_at "lk") ⟨rfl, by simp, rfl, ?_⟩))))
                        exact WB.nil (WB.nil ⟨_, by walk_at "lk", by walk_at "lk", by rw [← pairsV_snoc]; walk_at "lk", by walk_at "lk", by walk_at "lk", g6⟩)
                      · rw [if_neg (by simp [h18])]
                        rw [show stepDown t a U.1 ls = (U.1, ls) from if_neg h18] at g6
                        exact WB.nil (WB.nil ⟨_, by walk_at "lk", by walk_at "lk", by walk_at "lk", by walk_at "lk", by walk_at "lk", g6⟩)
                    · simp only [Bool.eq_false_iff.mpr he, Bool.not_false, if_true]
                      cases m with
                      | zero => unfold walkRest at k8; rw [if_neg he] at k8; cases k8
                      | succ m =>
                        unfold walkRest at k8
                        rw [if_neg he] at k8
                        cases hwd : tokTab.lookup (wordOf rest) with
                        | none => rw [hwd] at k8; cases k8
                        | some i =>
                          rw [hwd] at k8
                          dsimp only at k8
                          refine WB.cons (WS.asg (WE.mono (Q := fun v => v = .str (wordOf rest)) (WE.ifexp (WT.tokIn H (by kernel_rfl) (WE.slice (WE.name (by walk_at "lk") ⟨rest, rfl, Nat.le_trans k9 (by decide), WE.int ⟨_, rfl, _, rfl, ?_⟩⟩)))) (fun v hv => by
                            subst hv
                            refine ⟨_, rfl, ?_⟩
                            have hwl : (wordOf rest).length ≤ 1000 := by
                              unfold wordOf
                              split <;> exact Nat.le_trans (sl_len _ _ _) k9
                            refine WB.cons (WS.aug (st₀ := .val (.int a)) (by walk_at "lk") (WE.dget H (by rfl) (by rfl) (by simp) (by decide) ?_) (by walk_at "nk"))
                            refine WE.int (WE.un (WE.int ⟨_, Op.neg _, rfl, rfl, ?_⟩))
                            refine WE.int (WE.int ⟨rfl, rfl, ?_⟩)
                            refine WE.int (WE.un (WE.int ⟨_, Op.neg _, rfl, rfl, ?_⟩))
                            refine WE.int (WE.int ⟨rfl, rfl, ?_⟩)
                            refine ⟨moveTab, rfl, by decide, ?_⟩
                            refine WE.tokAt H (by kernel_rfl) (WE.name (by walk_at "lk") ⟨_, i, rfl, hwd, _, rfl, WE.int ⟨_, rfl, _, _, Op.iadd _ _, rfl, ?_⟩⟩)
                            refine WB.cons (WS.asg (WE.slice (WE.name (by walk_at "lk") ⟨rest, rfl, Nat.le_trans k9 (by decide), WE.b1 (bi_len H) H.ok (by kernel_rfl) (WE.name (by walk_at "lk") ⟨_, Op.lenS (x := wordOf rest) (by omega), _, rfl, _, rfl, ?_⟩)⟩)) (by walk_at "nk"))
                            exact WB.nil ⟨m, Nat.lt_succ_self m, _, _, by walk_at "lk", by walk_at "lk", by walk_at "lk", by walk_at "lk", by walk_at "lk", by walk_at "lk", by walk_at "lk", k8, Nat.le_trans (sl_len _ _ _) k9⟩)) (by walk_at "nk"))
                          unfold wordOf
                          by_cases h2 : (tokTab.lookup (sl none (some 2) rest)).isSome = true
                          · rw [if_pos h2, if_pos h2]
                            exact WE.slice (WE.name (by walk_at "lk") ⟨rest, rfl, Nat.le_trans k9 (by decide), WE.int ⟨_, rfl, rfl⟩⟩)
                          · rw [if_neg h2, if_neg h2]
                            exact WE.slice (WE.name (by walk_at "lk") ⟨rest, rfl, Nat.le_trans k9 (by decide), WE.int ⟨_, rfl, rfl⟩⟩)
                · cases hs
      · rintro ρ ⟨⟨ac, hh, ls, rs⟩, g1, g2, g3, g4, g5, g6⟩
        rw [List.length_map, List.drop_length] at g6
        cases g6
        dsimp only at hr g1 g2 g3 g4
        split at hr
        rotate_left
        · cases hr
        rename_i hb
        refine WB.nil (WB.cons (WS.for_own (l := pairsV ls) (by walk_at "lk") fun a => ?_))
        refine ⟨RdC a ls rs r, ⟨[], by walk_at "lk", by walk_at "lk", by walk_at "lk", hr⟩, ?_, ?_⟩
        · rintro k v ρ hk ⟨sp, k1, k2, k3, k4⟩
          rw [List.getElem?_map] at hk
          cases q : ls[k]? with
          | none => rw [q] at hk; cases hk
          | some p =>
            rw [q] at hk; cases hk
            obtain ⟨level, left⟩ := p
            have hkl : k < ls.length := (List.getElem?_eq_some_iff.mp q).1
            rw [List.drop_eq_getElem_cons hkl, (List.getElem?_eq_some_iff.mp q).2] at k4
            unfold leftsFold at k4
            cases hs : leftStep rs sp (level, left) with
            | none => rw [hs] at k4; cases k4
            | some sp' =>
              rw [hs] at k4
              dsimp only at k4
              unfold leftStep at hs
              dsimp only at hs
              split at hs
              rotate_left
              · cases hs
              rename_i hel
              refine ⟨_, AsgOk.tup (xs := ["level", "left"]) (.cons (.cons .nil)) (fun x hx => ?_) rfl rfl, ?_⟩
              · simp only [List.mem_cons, List.not_mem_nil, or_false] at hx
                rcases hx with rfl | rfl <;> exact .inr ⟨by kernel_rfl, by kernel_rfl⟩
              simp only [updN]
              refine WB.cons (WS.asg (WE.b1 (bi_sorted H) H.ok (by kernel_rfl) (WE.comp ["level", "left"] (endG level left) (CompS.of (by kernel_rfl) (by kernel_rfl)) (fun x hx st e => ?_) (WE.name (by walk_at "lk") ⟨pairsV rs, rfl, by simp; omega, ?_, ?_⟩))) (by walk_at "nk"))
              · simp only [List.mem_cons, List.not_mem_nil, or_false] at hx
                rcases hx with rfl | rfl
                · rw [upd_ne (by decide), upd_self] at e; cases e; rfl
                · rw [upd_self] at e; cases e; rfl
              · intro cl C he i v hv
                rw [List.getElem?_map] at hv
                cases q2 : rs[i]? with
                | none => rw [q2] at hv; cases hv
                | some p =>
                  rw [q2] at hv; cases hv
                  obtain ⟨fl, ed⟩ := p
                  refine ⟨_, AsgL.tup (xs := ["floor", "edge"]) (.cons (.cons .nil)) (fun x hx => ?_) rfl rfl, fun x st e => ?_, ?_⟩
                  · simp only [List.mem_cons, List.not_mem_nil, or_false] at hx
                    rcases hx with rfl | rfl <;> kernel_rfl
                  · have hm := (capLoc_some e).1
                    simp only [updN]
                    rw [upd_ne (by rintro rfl; revert hm; decide), upd_ne (by rintro rfl; revert hm; decide)]
                    exact e
                  · simp only [updN]
                    refine WT.bool (WAll.and_cons (WT.cmp (WE.name (by walk_at "lk") (WE.name ((upd_ne (by decide)).trans ((upd_ne (by decide)).trans (capLoc_get (by simp) (by walk_at "lk")))) ⟨_, Op.eq _ _, ?_⟩))))
                    by_cases c1 : (fl == level) = true
                    · rw [if_pos c1]
                      refine WAll.and_cons (WT.cmp (WE.name (by walk_at "lk") (WE.name ((upd_ne (by decide)).trans ((upd_ne (by decide)).trans (capLoc_get (by simp) (by walk_at "lk")))) ⟨_, Op.gt _ _, ?_⟩)))
                      by_cases c2 : left < ed
                      · rw [if_pos (by simp [c2])]
                        refine WAll.and_nil ?_
                        simp only [if_true, WIfs]
                        refine WE.name (by walk_at "lk") ⟨?_, rfl⟩
                        exact if_pos (by rw [c1]; simp [c2])
                      · rw [if_neg (by simp [c2])]
                        simp only [Bool.false_eq_true, if_false]
                        exact if_neg (by simp [c2])
                    · rw [if_neg c1]
                      simp only [Bool.false_eq_true, if_false]
                      exact if_neg (by simp [Bool.eq_false_iff.mpr c1])
              · rw [fm_ends]
                refine ⟨_, Op.sorted (l := endsOf rs level left) rfl hel, _, rfl, ?_⟩
                have hil : (isort (endsOf rs level left)).length < 64 := by unfold isort; rw [List.length_mergeSort]; exact hel
                generalize isort (endsOf rs level left) = es0 at *
                refine WB.cons (WS.for_ (WE.sliceL (WE.name (by walk_at "lk") ⟨intl es0, rfl, by simp [intl]; omega, WE.int ⟨_, rfl, by simp, rfl, _, rfl, ?_⟩⟩)))
                rw [pk_intl]
                generalize pk none (some 1) none es0 = es at *
                refine ⟨RdD a ls rs level left es sp', ⟨sp, by walk_at "lk", by walk_at "lk", by walk_at "lk", by walk_at "lk", by walk_at "lk", hs⟩, ?_, ?_⟩
                · rintro j v ρ hj ⟨s1, l1, l2, l3, l4, l5, l6⟩
                  obtain ⟨e, he, rfl⟩ := intl_getF hj
                  have hjl : j < es.length := (List.getElem?_eq_some_iff.mp he).1
                  rw [List.drop_eq_getElem_cons hjl, (List.getElem?_eq_some_iff.mp he).2] at l6
                  unfold endsFold at l6
                  split at l6
                  rotate_left
                  · cases l6
                  rename_i hok
                  unfold okEnd at hok
                  have hok := of_decide_eq_true hok
                  refine ⟨_, AsgOk.name rfl (by walk_at "nk"), ?_⟩
                  refine WB.cons (WS.augL (l := intl s1) (by walk_at "lk") (WE.comp ["level"] (spotG level) (CompS.of (by kernel_rfl) (by kernel_rfl)) (fun x hx st e => ?_) (WE.b2 (bi_range H) H.ok (by kernel_rfl) (WE.name (by walk_at "lk") (WE.name (by walk_at "lk") ⟨_, Op.range2 (a := left) (b := e) (by omega) (by omega), _, rfl, by simp; omega, ?_, ?_⟩)))) (by kernel_rfl))
                  · rw [List.mem_singleton] at hx; subst hx
                    rw [upd_ne (by decide), l4] at e; cases e; rfl
                  · intro cl C he i v hv
                    obtain ⟨hil, rfl⟩ := rng_get' hv
                    refine CompTurn.name rfl (by kernel_rfl) (cap_upd (by simp)) (WE.bin (WE.bin (WE.int (WE.name upd_self ⟨_, Op.mul (a := 100) (.inl (by decide)), WE.name ((upd_ne (by decide)).trans (capLoc_get (by simp) (by walk_at "lk"))) ⟨_, Op.add _ _, rfl, rfl⟩⟩))))
                  · rw [fm_spots]
                    refine ⟨intl (spotsOf level left e), rfl, ?_, ?_⟩
                    · simp only [intl, spotsOf, List.length_map, List.length_range]; omega
                    · rw [intl_app]
                      exact WB.nil ⟨_, by walk_at "lk", by walk_at "lk", by walk_at "lk", by walk_at "lk", by walk_at "lk", l6⟩
                · rintro ρ ⟨s1, l1, l2, l3, l4, l5, l6⟩
                  rw [show (intl es).length = es.length by simp [intl], List.drop_length] at l6
                  cases l6
                  exact WB.nil (WB.nil ⟨_, by walk_at "lk", by walk_at "lk", by walk_at "lk", k4⟩)
        · rintro ρ ⟨sp, k1, k2, k3, k4⟩
          rw [List.length_map, List.drop_length] at k4
          cases k4
          exact WB.nil ⟨k1, WB.cons (WS.ret_own (l := intl r) (by walk_at "lk") rfl)⟩
end
section
open _root_.PySem _root_.PySem.W _root_.PySem.Calls _root_.PyProof.Rows _root_.PySem.Builtin _root_.PySem.Builtin.Str
set_option linter.unusedVariables false
set_option linter.deprecated false
set_option maxRecDepth 100000
variable {c : Cx} {f : Fm} {ρ : Loc}
theorem Op.sum {v : V} {l : List Int} (e : v.list? = some (intl l)) : Op1 c (fun w => PySem.call (.builtin "sum") [w]) v (.int l.sum) := by
  rintro wa h₁ A s E Qs hr _ hv k
  obtain ⟨a, its, rfl, hls, q⟩ := hv.isList e
  have hi := intl_are q
  obtain ⟨xs, hx⟩ := hi.allInts.items
  have hx' : its = intItems xs := by rw [← hx]
  have hl' : s.heap.IsList a (intItems xs) := hx' ▸ hls
  refine sum_intListG hr.handled hl' fun h' tk t' hk => ?_
  have e1 : l = xs.toList.map (·.1) := by
    rw [← nums_intItems, ← hx]
    exact (show numsOf its.toList.toArray.toList = l from hi.numsOf).symm
  have e2 : preSum (numAt xs) xs.size = l.sum := by
    rw [preSum_eq, List.take_of_length_le (by simp), e1]
  rw [e2]
  exact k _ _ ⟨hk, rfl, rfl⟩ ⟨t', rfl⟩
/-- more is fixed -/
theorem Rel.more {Z Z' : Addr → Obj → Prop} {h : Heap} {m ad} (R : Rel c f Z ρ h m ad) (sub : ∀ b o, Z b o → Z' b o) (hz : ∀ b o, Z' b o → h.get? b = some o) (zL : ∀ o, ¬ Z' f.L o)
    (zC : ∀ x a, f.sc.names.lookup x = some .cell → f.cells.lookup x = some a → ∀ o, ¬ Z' a o) (zo : ∀ x o, ρ x = some (.own o) → ∀ o, ¬ Z' (ad x) o) : Rel c f Z' ρ h m ad where
  kind := R.kind
  room := R.room
  base := R.base
  entry := fun b o e => sub b o (R.entry b o e)
  z := hz
  ns := R.ns
  zL := zL
  zC := zC
  cell := R.cell
  cinj := R.cinj
  own := fun x o e => let ⟨g1, _, g3, g4⟩ := R.own x o e; ⟨g1, zo x o e, g3, g4⟩
  pin := R.pin
  var := R.var
theorem tab_tup {h : Heap} {D a : Addr} {ps : Array Value} {its : Array Value} (e : h.get? D = some (tabObj ps)) (t : IsTup h a its) : a ≠ D := not_tup t e (by simp [tabObj])
/-- two tables turn -/
theorem Rel.tabs {Z : Addr → Obj → Prop} {h h' : Heap} {m ad} (R : Rel c f Z ρ h m ad) {p1 p2 q1 q2 : Array Value} (z1 : Z 147 (tabObj p1)) (z2 : Z 154 (tabObj p2)) (n1 : f.he.get? 147 = none) (n2 : f.he.get? 154 = none)
    (keep : ∀ b o, b ≠ 147 → b ≠ 154 → h.get? b = some o → h'.get? b = some o) (t1 : h'.get? 147 = some (tabObj q1)) (t2 : h'.get? 154 = some (tabObj q2)) :
    Rel c f (fun b o => f.he.get? b = some o ∨ (b = 147 ∧ o = tabObj q1) ∨ (b = 154 ∧ o = tabObj q2)) ρ h' m ad := by
  have g1 := R.z _ _ z1
  have g2 := R.z _ _ z2
  have L1 : f.L ≠ 147 := fun e => R.zL _ (e ▸ z1)
  have L2 : f.L ≠ 154 := fun e => R.zL _ (e ▸ z2)
  have C1 : ∀ x a v, f.cells.lookup x = some a → h.IsCell a v → a ≠ 147 := fun x a v _ hc e => by
    subst e; obtain ⟨o, ho, hd⟩ := hc; rw [g1] at ho; cases ho; cases hd
  have O1 : ∀ y o, ρ y = some (.own o) → ad y ≠ 147 := fun y o e q => (R.own y o e).2.1 _ (q ▸ z1)
  have O2 : ∀ y o, ρ y = some (.own o) → ad y ≠ 154 := fun y o e q => (R.own y o e).2.1 _ (q ▸ z2)
  have A1 : ∀ y b l, ρ y = some (.at b l) → b ≠ 147 := fun y b l e q => by
    obtain ⟨w, _, _, hs⟩ := R.var y _ e
    subst q
    obtain ⟨items, ⟨n, hp⟩, _⟩ := hs
    rw [g1] at hp; cases hp
  have A2 : ∀ y b l, ρ y = some (.at b l) → b ≠ 154 := fun y b l e q => by
    obtain ⟨w, _, _, hs⟩ := R.var y _ e
    subst q
    obtain ⟨items, ⟨n, hp⟩, _⟩ := hs
    rw [g2] at hp; cases hp
  have R₀ : Rel c f (fun b o => f.he.get? b = some o) ρ h m ad := R.weak (fun b o e => R.entry b o e) fun _ _ e => e
  let u := h.update 147 (fun _ => tabObj q1)
  have us : Heap.SameBut 147 h u := Heap.SameBut.update ..
  have u1 : u.get? 147 = some (tabObj q1) := Heap.get?_update_self _ g1 rfl
  have u2 : u.get? 154 = some (tabObj p2) := us.extBut _ _ (by decide) g2
  have R₁ := R₀.but us.extBut (fun o e => by rw [n1] at e; cases e) L1 C1 (fun a its t => tab_tup g1 t) O1 A1
  have x2 : Heap.ExtBut 154 u h' := fun b o hb e => by
    by_cases hb1 : b = 147
    · subst hb1; rw [u1] at e; cases e; exact t1
    · have e' : h.get? b = some o := (us.2 b hb1) ▸ e
      exact keep b o hb1 hb e'
  have R₂ := R₁.but x2 (fun o e => by rw [n2] at e; cases e) L2 (fun x a v _ hc e => by subst e; obtain ⟨o, ho, hd⟩ := hc; rw [u2] at ho; cases ho; cases hd) (fun a its t => tab_tup u2 t) O2 A2
  refine R₂.more (fun b o e => .inl e) (fun b o e => ?_) (fun o e => ?_) (fun x a h1 h2 o e => ?_) fun x o e o' e' => ?_
  · rcases e with e | ⟨rfl, rfl⟩ | ⟨rfl, rfl⟩
    · exact R₂.z b o e
    · exact t1
    · exact t2
  · rcases e with e | ⟨q, _⟩ | ⟨q, _⟩
    · exact R₂.zL o e
    · exact L1 q
    · exact L2 q
  · rcases e with e | ⟨q, _⟩ | ⟨q, _⟩
    · exact R₂.zC x a h1 h2 o e
    · exact R.zC x a h1 h2 _ (q ▸ z1)
    · exact R.zC x a h1 h2 _ (q ▸ z2)
  · rcases e' with e' | ⟨q, _⟩ | ⟨q, _⟩
    · exact (R₂.own x o e).2.1 o' e'
    · exact O1 x o e q
    · exact O2 x o e q
end
section
open _root_.PySem _root_.PySem.W _root_.PySem.Calls _root_.PyProof.Rows _root_.PySem.Builtin _root_.PySem.Builtin.Str
set_option linter.unusedVariables false
set_option linter.deprecated false
set_option maxRecDepth 100000
variable {c : Cx} {f : Fm} {ρ : Loc}
theorem Room.le {A : Around} {n k : Nat} (r : Room A n) (h : k ≤ n) : Room A k := ⟨r.handled, by have := r.depth; omega, by have := r.units; omega⟩
theorem fn_obj {K : Frag} {fa : Addr} (h : fnIn K fa = true) : ∃ oc od fd osl, K.lookup fa = some ⟨oc, od, .func fd, osl⟩ := by
  unfold fnIn at h
  split at h <;> try cases h
  rename_i oc od fd osl ho
  exact ⟨_, _, _, _, ho⟩
theorem rows_read (H : HereP c) {Z : Addr → Obj → Prop} {s : Shared} {m ad} (R : Rel c f Z ρ s.heap m ad) {p1 p2 : Array Value} (z1 : Z 147 (tabObj p1)) (z2 : Z 154 (tabObj p2)) (k1 : TabOk posL p1) (k2 : TabOk posS p2)
    (n1 : f.he.get? 147 = none) (n2 : f.he.get? 154 = none) (hg : AllBare s.gens) {t : List Nat} {r : List Int} (htext : ρ "text" = some (.val (.str t))) (hne : t ≠ []) (hlen : t.length ≤ 800) (hch : ∀ x ∈ t, x < 1000)
    (hsp : ∀ x ∈ t, Unicode.isSpace x = false) (hread : readF (rowsOf t) = some r) (hd : 9 ≤ f.d) (hl : f.sc.names.lookup (Str.ofString "spots") = some .local)
    (hr : f.sc.names.lookup (Str.ofString "_law_read") = some .globalImplicit) (hw : f.sc.names.lookup (Str.ofString "_law_rows") = some .globalImplicit) {q1 q2 q3 q4 q5 q6 pos : Pos} {E : Value → Shared → Prop} {Qs : Flow → Shared → Prop}
    (k : ∀ s' m' ad' u1 u2, TabOk posL u1 → TabOk posS u2 → AllBare s'.gens → s'.os = s.os → Rel c f (fun b o => f.he.get? b = some o ∨ (b = 147 ∧ o = tabObj u1) ∨ (b = 154 ∧ o = tabObj u2)) (upd ρ "spots" (.own (.list (intl r)))) s'.heap m' ad' → Qs .next s')
    (hs : swapsWith (.Call (.Name (Str.ofString "_law_read") q2) [.Call (.Name (Str.ofString "_law_rows") q3) [.Name (Str.ofString "text") q4] [] q5] [] q6) (some (.Name (Str.ofString "spots") q1)) pos.line f.env = pure false := by rfl) :
    wpAny c.M f.A (exec (.Assign [.Name (Str.ofString "spots") q1] (.Call (.Name (Str.ofString "_law_read") q2) [.Call (.Name (Str.ofString "_law_rows") q3) [.Name (Str.ofString "text") q4] [] q5] [] q6) pos) f.env) Qs E s := by
  have ok := H.H.ok
  have b := base_ext R
  obtain ⟨oc, od, fd, osl, ho⟩ := fn_obj (K := c.K) (fa := 218) (by rw [H.H.K]; kernel_rfl)
  obtain ⟨oc', od', fd', osl', ho'⟩ := fn_obj (K := c.K) (fa := 213) (by rw [H.H.K]; kernel_rfl)
  refine wpAny_Assign_Name ?_ hs
  refine Call_ (Name_function_global (env := f.env) R.kind hr (loadGlobal_global (env := f.env) (ok.g.keeps b) (mg_of (v := .ref 218) ok.k ok.g (by rw [H.H.K]; kernel_rfl)) ?_) (by decide +kernel))
  refine callWith_def (o := ⟨oc, od, .func fd, osl⟩) rfl ?_ (starEach_plain rfl)
  refine wpAny_items_cons ?_ rfl
  refine Call_ (Name_function_global (env := f.env) R.kind hw (loadGlobal_global (env := f.env) (ok.g.keeps b) (mg_of (v := .ref 213) ok.k ok.g (by rw [H.H.K]; kernel_rfl)) ?_) (by decide +kernel))
  refine callWith_def (o := ⟨oc', od', .func fd', osl'⟩) rfl ?_ (starEach_plain rfl)
  obtain ⟨wt, ha, tt, rfl⟩ := R.var "text" _ htext
  refine wpAny_items_cons (wpAny_Name (loadName_at R.kind R.ns ha ?_) (by decide +kernel)) rfl
  refine wpAny_items_nil ⟨b _ _ (ok.k _ _ ho'), ?_⟩
  refine wpAny_call (rows_spec H (R.room.le hd) b ⟨p1, R.z _ _ z1, k1⟩ ⟨p2, R.z _ _ z2, k2⟩ hg hne hlen hch hsp fun w s₁ hv keep t1 t2 hg₁ hos₁ => ?_)
  obtain ⟨u1, g1, o1⟩ := t1
  obtain ⟨u2, g2, o2⟩ := t2
  have R₁ := R.tabs z1 z2 n1 n2 keep g1 g2
  have b₁ := base_ext R₁
  refine wpAny_items_nil ⟨b₁ _ _ (ok.k _ _ ho), ?_⟩
  refine wpAny_call (read_spec H.H 5 (rowsOf t) r hread f.A s₁ [w] _ (R.room.le hd) b₁ ⟨⟨rfl, ?_⟩, trivial⟩ fun v w' s₂ hv' x₂ hr₂ => ?_)
  · obtain ⟨a, its, e, hl, hal⟩ := hv; exact ⟨a, its, e, hl, hal⟩
  subst hv'
  refine store_rel R₁ x₂.x hr₂ rfl (.inl hl) fun s₃ m₃ ad₃ og R₃ => ?_
  exact k s₃ m₃ ad₃ u1 u2 o1 o2 (by rw [og.gens, x₂.gens]; exact hg₁) ((og.os.trans x₂.os).trans hos₁) R₃
end
section
open _root_.PySem _root_.PySem.W _root_.PySem.Calls _root_.PyProof.Rows _root_.PySem.Builtin _root_.PySem.Builtin.Str
set_option linter.unusedVariables false
set_option linter.unusedSimpArgs false
set_option linter.deprecated false
set_option maxRecDepth 100000
section
variable {c : Cx} {f : Fm} {ρ : Loc}
theorem codeB_introC {n : Nat} {fa : Addr} {vs : List V} (ok : c.Ok) {name qual : Str} {params : Arguments} {body : List Stmt} {scope : Scope} {dV kV doc pm cdv ct oc : Value} {an od : Option Addr} {osl : Array (Option Value)} {xs : List String}
    (ho : c.K.lookup fa = some ⟨oc, od, .func (fnOf name qual params body scope dV kV doc pm an cdv ct), osl⟩) (hcd : codeIn c.K cdv qual = true)
    (hbind : ∀ ws : List Value, ws.length = vs.length → bindArgs (fnOf name qual params body scope dV kV doc pm an cdv ct) ⟨ws, []⟩ = pure ((xs.map Str.ofString).zip ws))
    (hx : xs.Nodup) (hxl : ∀ x ∈ xs, scope.names.lookup (Str.ofString x) = some .local ∨ (scope.names.lookup (Str.ofString x) = some .cell ∧ (Str.ofString x == ("__classdict__" : Str)) = false)) (hlen : xs.length = vs.length)
    {A : Around} {s : Shared} {ws : List Value} {R : Result → Shared → Prop} (hr : Room A (n + 1)) (he : Ext c.h₀ s.heap) (ha : All2 (AR s.heap) vs ws)
    (h : ∀ qual fa code A' E s₁ m, Og s s₁ → Ext s.heap s₁.heap → Rel c (fmC scope s.heap.objs.size qual fa code A' s.heap n) (fun b o => s.heap.get? b = some o) (argsLoc xs vs) s₁.heap m (fun _ => 0) →
      wpB c.M A' (execs body (fmC scope s.heap.objs.size qual fa code A' s.heap n).env) (fun fl s' => R (.ok (.ret (match fl with | .ret v => v | _ => .none))) s') E s₁)
    (hco : scope.isCoroutine = false := by rfl) (hgen : scope.isGenerator = false := by rfl) (hk : scope.kind = .function := by rfl) : codeB c.M A (.call (.ref fa) ⟨ws, []⟩) R s := by
  have hwl := ha.length
  refine codeB_call_function (fd := fnOf name qual params body scope dV kV doc pm an cdv ct) hr.lt (he _ _ (ok.k _ _ ho)) rfl ⟨hco, hgen, rfl⟩ ((codeRec_of ok.k hcd).keeps he) ?_
  rw [hbind ws hwl.symm]
  refine wpAny_pure (wpAny_newFunctionEnv_cells hk (kind_cells hxl) fun env hE s₁ X => ?_)
  subst hE
  refine ⟨(ok.nolimit.keeps he).keeps X.toInCall.keep, codeB_func fun E => ?_⟩
  have R0 := rel_cells (c := c) (qual := qual ++ ".<locals>.") (fa := fa) (code := cdv) hk (room_deeper (env := callEnvC (fnOf name qual params body scope dV kV doc pm an cdv ct) s.heap.objs.size fa) hr) he ha hx hlen hxl X
  have og₁ : Og s s₁ := by obtain ⟨h₁, tk, rfl⟩ := X.toInCall.same; exact ⟨rfl, rfl⟩
  exact h _ _ _ _ E s₁ _ og₁ X.toInCall.keep R0
/-- fewer things stood before -/
theorem rel_he {scope : Scope} {L : Addr} {qual : Str} {fa : Addr} {code : Value} {A : Around} {h₁ he' : Heap} {n : Nat} {Z : Addr → Obj → Prop} {h : Heap} {m ad} (R : Rel c (fmC scope L qual fa code A h₁ n) Z ρ h m ad) (base : Ext c.h₀ he') (sub : ∀ b o, he'.get? b = some o → Z b o)
    (vals : ∀ x st, ρ x = some st → ∃ v, st = .val v) (lst : ∀ b l o, VR h h (.lst l) (.ref b) → h₁.get? b = some o → he'.get? b = some o) : Rel c (fmC scope L qual fa code A he' n) Z ρ h m ad where
  kind := R.kind
  room := R.room
  base := base
  entry := sub
  z := R.z
  ns := R.ns
  zL := R.zL
  zC := R.zC
  cell := R.cell
  cinj := R.cinj
  own := R.own
  pin := R.pin
  var := fun x st e => by
    obtain ⟨w, ha, hs⟩ := R.var x st e
    refine ⟨w, ha, ?_⟩
    obtain ⟨v, rfl⟩ := vals x st e
    cases v <;> first | exact hs | skip
    rename_i l
    obtain ⟨⟨b, o, rfl, e1⟩, hv⟩ := hs
    exact ⟨⟨b, o, rfl, lst b l o hv e1⟩, hv⟩
end
noncomputable def drawOf (script : List Int) (k : Nat) : Int := ([0, 3, 3, 7, 0] : List Int).getD k 0 + (pk (some (k : Int)) (some 15) (some 5) script).sum.fmod 1000000
noncomputable def drawsOf (script : List Int) : List Int := (List.range (4 + script.length % 2)).map (drawOf script)
/-- what the law asks of a picture, said plainly -/
structure Good (sq : List Int) (m : Int) (N : Nat) (t : List Nat) (r : List Int) : Prop where
  len : sq.length < 64
  mem : m ∈ sq
  min : ∀ x ∈ sq, m ≤ x
  hN : N ≤ 1000
  htr : trace (waysOf sq) m N m [] = some t
  ne : t ≠ []
  tlen : t.length ≤ 100
  sign : (t ++ t).all isSign = true
  sign2 : (turnedF t).all isSign = true
  read : readF (rowsOf t) = some r
  rlen : r.length < 64
  same : isort r = isort (sq.map fun x => x - m)
  tiles : partedF t = fillsF r
theorem sign_ok {t : List Nat} (h : (t ++ t).all isSign = true) : (∀ x ∈ t, x < 1000) ∧ ∀ x ∈ t, Unicode.isSpace x = false := by
  have h' : ∀ x ∈ t, isSign x = true := fun x hx => List.all_eq_true.mp h x (List.mem_append.mpr (.inl hx))
  refine ⟨fun x hx => ?_, fun x hx => ?_⟩
  · rcases isSign_cases (h' x hx) with rfl | rfl | rfl | rfl <;> decide
  · rcases isSign_cases (h' x hx) with rfl | rfl | rfl | rfl <;> decide +kernel
end
section
open _root_.PySem _root_.PySem.W _root_.PySem.Calls _root_.PyProof.Rows _root_.PySem.Builtin _root_.PySem.Builtin.Str
set_option linter.unusedVariables false
set_option linter.unusedSimpArgs false
set_option linter.deprecated false
set_option maxRecDepth 100000
theorem fm_draws (script : List Int) {g : V → Option V} (h : ∀ k : Nat, k < 5 → g (.int ((0 : Int) + (k : Nat) * 1)) = some (.int (drawOf script k))) : ∀ n, n ≤ 5 → ((List.range n).map fun (k : Nat) => V.int ((0 : Int) + (k : Nat) * 1)).filterMap g = intl ((List.range n).map (drawOf script)) := by
  intro n hn
  have : ∀ l : List Nat, (∀ k ∈ l, k < 5) → (l.map fun (k : Nat) => V.int ((0 : Int) + (k : Nat) * 1)).filterMap g = intl (l.map (drawOf script)) := by
    intro l
    induction l with
    | nil => intro _; rfl
    | cons a r ih =>
      intro hl
      rw [List.map_cons, List.filterMap_cons, h a (hl a (.head _)), ih fun k hk => hl k (.tail _ hk)]; rfl
  exact this _ fun k hk => by have := List.mem_range.mp hk; omega
theorem step1 {c : Cx} {f : Fm} {ρ : Loc} {Z : Addr → Obj → Prop} {s : Shared} {m ad} (R : Rel c f Z ρ s.heap m ad) {A : Around} {env : Env} (hA : A = f.A) (henv : env = f.env) {st : Stmt} {rest : List Stmt} {Qs : Flow → Shared → Prop} {E : Value → Shared → Prop} {ρ₂ : Loc}
    (hst : WS c f ρ st fun fl ρ' => match fl with | .next => ρ' = ρ₂ | _ => False)
    (k : ∀ s' m' ad', Og s s' → Rel c f Z ρ₂ s'.heap m' ad' → wpB c.M A (execs rest env) Qs E s') : wpB c.M A (execs (st :: rest) env) Qs E s := by
  subst hA henv
  refine wpB.execs_cons (wpB.of (hst Z s E _ m ad R fun fl ρ' g s' m' ad' hq hg og R' => ?_))
  cases fl with
  | next => cases hg; subst hq; exact k s' m' ad' og R'
  | brk => exact hq.elim
  | cont => exact hq.elim
  | ret v => exact hq.elim
theorem stepB {c : Cx} {f : Fm} {ρ : Loc} {Z : Addr → Obj → Prop} {s : Shared} {m ad} (R : Rel c f Z ρ s.heap m ad) {A : Around} {env : Env} (hA : A = f.A) (henv : env = f.env) {sts : List Stmt} {Qs : Flow → Shared → Prop} {E : Value → Shared → Prop}
    (h : WBB c f ρ sts fun fl _ => match fl with | .ret v => v = V.bool true | _ => False)
    (k : ∀ s', Og s s' → (∀ b o, Z b o → s'.heap.get? b = some o) → Qs (.ret (.bool true)) s') : wpB c.M A (execs sts env) Qs E s := by
  subst hA henv
  refine h Z s E _ m ad R fun fl ρ' g s' m' ad' hq hg og R' => ?_
  cases fl with
  | next => exact hq.elim
  | brk => exact hq.elim
  | cont => exact hq.elim
  | ret v =>
    obtain ⟨w, rfl, hw⟩ := hg
    subst hq
    cases hw
    exact k s' og R'.z
noncomputable def subG (m : Int) (v : V) : Option V := match v with
  | .int k => some (.int (k - m))
  | _ => none
theorem fm_sub (m : Int) : ∀ l : List Int, (intl l).filterMap (subG m) = intl (l.map fun x => x - m)
  | [] => rfl
  | a :: r => by
    have ih := fm_sub m r
    show (V.int a :: intl r).filterMap (subG m) = _
    rw [List.filterMap_cons, ih]; rfl
set_option maxHeartbeats 4000000 in
theorem law_walk {c : Cx} (H : HereP c) {s : Shared} {script : List Int} {sv : Value} (hlen : script.length ≤ 63) (hsv : VR s.heap s.heap (.lst (intl script)) sv) (h0 : c.h₀ = hideAll s.heap [147, 154])
    (g1 : s.heap.get? 147 = some (tabObj #[])) (g2 : s.heap.get? 154 = some (tabObj #[])) (hg : AllBare s.gens) {m : Int} {N : Nat} {t : List Nat} {r : List Int} (G : Good (grown (drawsOf script)) m N t r) :
    codeB c.M callerA (.call (.ref 235) ⟨[sv], []⟩) (fun res s' => res = .ok (.ret (.bool true)) ∧ (∀ b o, b ≠ 147 → b ≠ 154 → s.heap.get? b = some o → s'.heap.get? b = some o) ∧
      (∃ u, s'.heap.get? 147 = some (tabObj u) ∧ TabOk posL u) ∧ (∃ u, s'.heap.get? 154 = some (tabObj u) ∧ TabOk posS u) ∧ AllBare s'.gens ∧ s'.os = s.os) s := by
  have b0 : Ext c.h₀ s.heap := fun b o e => of_hideAll [147, 154] (by rw [h0] at e; exact e)
  refine' codeB_introC (n := 11) (xs := ["script"]) (vs := [.lst (intl script)]) H.H.ok ?ho ?hcd ?hbind ?hx ?hxl rfl ?hr b0 ⟨⟨rfl, hsv⟩, trivial⟩ ?h ?hco ?hgen ?hk
  case ho => rw [H.H.K]; with_unfolding_all rfl
  case hcd => rw [H.H.K]; kernel_rfl
  case hbind =>
    intro ws hw
    obtain ⟨w, rfl⟩ := len_one hw
    with_unfolding_all rfl
  case hx => decide
  case hxl => decide
  case hco => rfl
  case hgen => rfl
  case hk => rfl
  case hr => exact ⟨rfl, by decide +kernel, by decide +kernel⟩
  case h =>
    intro qual fa code A E s₁ m₁ og₁ x₁ R₀
    have R₁ := rel_he (he' := c.h₀) R₀ (fun _ _ e => e) (fun b o e => b0 b o e) (fun x st e => by obtain ⟨i, v, _, _, q⟩ := argsLoc_some e; exact ⟨v, q⟩) (fun b l o hv e => by
      rw [h0]
      obtain ⟨a, its, e', ⟨o', ho', hc', _⟩, _⟩ := hv
      cases e'
      have e2 := x₁ _ _ e
      refine hideAll_get _ e fun hm => ?_
      simp only [List.mem_cons, List.not_mem_nil, or_false] at hm
      rcases hm with rfl | rfl
      · rw [x₁ _ _ g1] at ho'; cases ho'; cases hc'
      · rw [x₁ _ _ g2] at ho'; cases ho'; cases hc')
    refine step1 R₁ rfl rfl (ρ₂ := upd (argsLoc ["script"] [.lst (intl script)]) "draws" (.own (.list (intl (drawsOf script))))) (WS.asgComp ["script"] (fun v => match v with | .int k => some (.int (drawOf script k.toNat)) | _ => none) (CompS.of (by kernel_rfl) (by kernel_rfl)) (fun x hx st e => ?_) (by kernel_rfl)
      (WE.b1 (bi_range H.H) H.H.ok (by kernel_rfl) (WE.bin (WE.int (WE.bin (WE.b1 (bi_len H.H) H.H.ok (by kernel_rfl) (WE.name (by walk_at "lk") ⟨_, Op.len (l := intl script) rfl (by simp [intl]; omega), WE.int ⟨_, Op.mod (by decide), ?_⟩⟩)))))) (by kernel_rfl)) ?_
    · rw [List.mem_singleton] at hx; subst hx
      rw [argsLoc, upd_self] at e; cases e; rfl
    · have el : ((intl script).length : Int).fmod 2 = ((script.length % 2 : Nat) : Int) := by
        rw [show (intl script).length = script.length by simp [intl], Int.fmod_eq_emod_of_nonneg _ (by decide)]; omega
      rw [el]
      have en : ((4 : Int) + ((script.length % 2 : Nat) : Int)).toNat = 4 + script.length % 2 := by omega
      refine ⟨_, Op.add _ _, _, Op.range1 (b := 4 + ((script.length % 2 : Nat) : Int)) (by omega), _, rfl, by simp; omega, ?_, ?_⟩
      · intro cl C he i v hv
        obtain ⟨hi, rfl⟩ := rng_get' hv
        rw [en] at hi
        have ei : (0 : Int) + (i : Nat) * 1 = (i : Int) := by omega
        rw [ei]
        have hx : ([.int 0, .int 3, .int 3, .int 7, .int 0] : List V)[((i : Nat) : Int).toNat]? = some (.int (([0, 3, 3, 7, 0] : List Int).getD i 0)) := by
          rw [Int.toNat_natCast]
          have : i = 0 ∨ i = 1 ∨ i = 2 ∨ i = 3 ∨ i = 4 := by omega
          rcases this with rfl | rfl | rfl | rfl | rfl <;> rfl
        refine CompTurn.name rfl (by kernel_rfl) (cap_upd (by simp)) (WE.bin (WE.sub (WE.list (WE.int (WE.int (WE.int (WE.int (WE.int ⟨rfl, by decide, WE.name upd_self ⟨_, Op.item (l := [.int 0, .int 3, .int 3, .int 7, .int 0]) rfl (by show (0 : Int) ≤ (i : Int); omega) hx (by omega), ?_⟩⟩))))))))
        refine WE.bin (WE.b1 (bi_sum H.H) H.H.ok (by kernel_rfl) (WE.sliceL (WE.name ((upd_ne (by decide)).trans (capLoc_get (by simp) (by walk_at "lk"))) ⟨intl script, rfl, by simp [intl]; omega, WE.name upd_self ⟨_, rfl, WE.int ⟨_, rfl, WE.int ⟨_, rfl, by simp, ?_⟩⟩⟩⟩)))
        rw [pk_intl]
        refine ⟨_, Op.sum rfl, WE.bin (WE.int (WE.int ⟨_, Op.pow106, _, Op.mod (by decide), _, Op.add _ _, ?_, rfl⟩))⟩
        rfl
      · rw [en, fm_draws script (fun k hk => by
          have ei : (0 : Int) + (k : Nat) * 1 = (k : Int) := by omega
          rw [ei]; rfl) _ (by omega)]
        rfl
    intro s₂ m₂ ad₂ og₂ R₂
    have hdl : (drawsOf script).length ≤ 5 := by unfold drawsOf; rw [List.length_map, List.length_range]; omega
    generalize hds : drawsOf script = ds at *
    refine step1 R₂ rfl rfl (ρ₂ := upd (upd (argsLoc ["script"] [.lst (intl script)]) "draws" (.own (.list (intl ds)))) "squares" (.own (.list (intl (grown ds))))) (WS.asg (WE.call (fa := 199) H.H.ok (by rw [H.H.K]; kernel_rfl) (by rw [H.H.K]; kernel_rfl) (WE.name (st := .own (.list (intl ds))) (by walk_at "lk") ⟨rfl, FS.mono (grown_spec H.H 10 ds hdl) ?_⟩) (by kernel_rfl)) (.inr ⟨by kernel_rfl, by kernel_rfl⟩)) ?_
    · rintro v rfl; exact ⟨_, rfl, rfl⟩
    intro s₃ m₃ ad₃ og₃ R₃
    generalize grown ds = sq at *
    have hsq : sq.length < 64 := G.len
    refine step1 R₃ rfl rfl (ρ₂ := upd (upd (upd (argsLoc ["script"] [.lst (intl script)]) "draws" (.own (.list (intl ds)))) "squares" (.own (.list (intl sq)))) "text" (.val (.str t))) (WS.asg (WE.call (fa := 206) H.H.ok (by rw [H.H.K]; kernel_rfl) (by rw [H.H.K]; kernel_rfl) (WE.name (st := .own (.list (intl sq))) (by walk_at "lk") ⟨rfl, FS.mono (border_spec H.H 10 sq m N t (by omega) G.hN G.mem G.min G.htr) ?_⟩) (by kernel_rfl)) (by walk_at "nk")) ?_
    · rintro v rfl; exact ⟨_, rfl, rfl⟩
    intro s₄ m₄ ad₄ og₄ R₄
    obtain ⟨hc1, hc2⟩ := sign_ok G.sign
    have hg₄ : AllBare s₄.gens := by rw [og₄.gens, og₃.gens, og₂.gens, og₁.gens]; exact hg
    refine wpB.execs_cons (wpB.of (rows_read H R₄ g1 g2 (.inl rfl) (.inl rfl) H.h1 H.h2 hg₄ (by walk_at "lk") G.ne (by have := G.tlen; omega) hc1 hc2 G.read (by show 9 ≤ 11; decide) (by kernel_rfl) (by kernel_rfl) (by kernel_rfl) ?_))
    intro s₅ m₅ ad₅ u1 u2 k1 k2 hg₅ hos₅ R₅
    refine stepB R₅ rfl rfl ?_ fun s₆ og₆ hz => ⟨rfl, fun b o n1 n2 e => ?_, ⟨u1, hz _ _ (.inr (.inl ⟨rfl, rfl⟩)), k1⟩, ⟨u2, hz _ _ (.inr (.inr ⟨rfl, rfl⟩)), k2⟩, by rw [og₆.gens]; exact hg₅, by rw [og₆.os, hos₅, og₄.os, og₃.os, og₂.os, og₁.os]⟩
    rotate_left
    · refine hz b o (.inl ?_)
      show c.h₀.get? b = some o
      rw [h0]
      exact hideAll_get _ e (by simp [n1, n2])
    refine WBB.cons (WSB.of (WS.ite (WT.cmpL (.inr rfl) (by show 2 ≤ 11; decide) ?_)))
    refine WE.b1 (bi_sorted H.H) H.H.ok (by kernel_rfl) (WE.name (by walk_at "lk") ⟨_, Op.sorted (l := r) rfl G.rlen, ?_⟩)
    refine WE.b1 (bi_sorted H.H) H.H.ok (by kernel_rfl) (WE.comp ["squares"] (subG m) (CompS.of (by kernel_rfl) (by kernel_rfl)) (fun x hx st e => ?_) (WE.name (by walk_at "lk") ⟨intl sq, rfl, by simp [intl]; omega, ?_, ?_⟩))
    · rw [List.mem_singleton] at hx; subst hx
      have e2 := (by walk_at "lk" : upd (upd (upd (upd (argsLoc ["script"] [.lst (intl script)]) "draws" (.own (.list (intl ds)))) "squares" (.own (.list (intl sq)))) "text" (.val (.str t))) "spots" (.own (.list (intl r))) "squares" = some (.own (.list (intl sq))))
      rw [e2] at e; cases e; rfl
    · intro cl C he i v hv
      obtain ⟨q, hq, rfl⟩ := intl_get hv
      refine CompTurn.name rfl (by kernel_rfl) (cap_upd (by simp)) (WE.bin (WE.name upd_self (WE.b1 (bi_min H.H) H.H.ok (by kernel_rfl) (WE.name ((upd_ne (by decide)).trans (capLoc_get (by simp) (by walk_at "lk"))) ⟨_, Op.min (l := sq) rfl G.mem G.min, _, Op.sub _ _, rfl, rfl⟩))))
    rw [fm_sub]
    refine ⟨_, Op.sorted (l := sq.map fun x => x - m) rfl (by rw [List.length_map]; exact hsq), isort r, isort (sq.map fun x => x - m), rfl, rfl, ?_⟩
    rw [G.same]
    simp only [reduceCtorEq, if_false, decide_true, Bool.not_true, Bool.false_eq_true]
    refine WB.nil ?_
    refine WBB.cons (WSB.ret_eqb (WEB.call (fa := 230) H.H (by rw [H.H.K]; kernel_rfl) (by kernel_rfl) (WE.name (st := .val (.str t)) (by walk_at "lk") ⟨rfl, FSB.mono (parted_spec H.H 5 t G.tlen G.sign G.sign2 G.ne) ?_⟩) (by kernel_rfl)))
    rintro v rfl
    refine ⟨_, rfl, WE.call (fa := 225) H.H.ok (by rw [H.H.K]; kernel_rfl) (by rw [H.H.K]; kernel_rfl) (WE.name (st := .own (.list (intl r))) (by walk_at "lk") ⟨rfl, FS.mono (fills_spec H.H 8 r G.rlen) ?_⟩) (by kernel_rfl)⟩
    rintro v rfl
    refine ⟨_, rfl, ?_⟩
    show V.bool _ = V.bool true
    rw [G.tiles]; simp
end
section
open _root_.PySem _root_.PySem.W _root_.PySem.Calls _root_.PyProof.Rows
set_option linter.unusedVariables false
set_option linter.deprecated false
noncomputable def ins (x : Int) : List Int → List Int
  | [] => [x]
  | y :: r => if x ≤ y then x :: y :: r else y :: ins x r
noncomputable def insort : List Int → List Int
  | [] => []
  | x :: r => ins x (insort r)
theorem ins_perm (x : Int) : ∀ l : List Int, (ins x l).Perm (x :: l)
  | [] => .refl _
  | y :: r => by
    unfold ins
    split
    · exact .refl _
    · exact ((ins_perm x r).cons y).trans (.swap x y r)
theorem insort_perm : ∀ l : List Int, (insort l).Perm l
  | [] => .refl _
  | x :: r => (ins_perm x _).trans ((insort_perm r).cons x)
theorem ins_pw (x : Int) : ∀ l : List Int, l.Pairwise (· ≤ ·) → (ins x l).Pairwise (· ≤ ·)
  | [], _ => by simp [ins]
  | y :: r, h => by
    obtain ⟨h1, h2⟩ := List.pairwise_cons.mp h
    unfold ins
    split
    · rename_i hxy
      refine List.pairwise_cons.mpr ⟨fun z hz => ?_, h⟩
      rcases List.mem_cons.mp hz with rfl | hz
      · exact hxy
      · exact Int.le_trans hxy (h1 z hz)
    · rename_i hxy
      refine List.pairwise_cons.mpr ⟨fun z hz => ?_, ins_pw x r h2⟩
      rcases List.mem_cons.mp ((ins_perm x r).mem_iff.mp hz) with rfl | hz
      · omega
      · exact h1 z hz
theorem insort_pw : ∀ l : List Int, (insort l).Pairwise (· ≤ ·)
  | [] => .nil
  | x :: r => ins_pw x _ (insort_pw r)
theorem isort_eq : isort = insort := by
  funext l
  exact ksm_same ((List.mergeSort_perm l _).trans (insort_perm l).symm) (isort_pw l) (insort_pw l)
theorem isort_perm {a b : List Int} (h : a.Perm b) : isort a = isort b := by
  rw [isort_eq]
  exact ksm_same (((insort_perm a).trans h).trans (insort_perm b).symm) (insort_pw a) (insort_pw b)
end
section
open _root_.PySem _root_.PySem.W _root_.PySem.Calls _root_.PyProof.Rows
set_option linter.unusedVariables false
set_option linter.deprecated false
set_option maxRecDepth 100000
noncomputable abbrev Srt := List Int → List Int
noncomputable def fillsAtS (srt : Srt) (spots : List Int) (wide slant : Int) : Bool := decide (srt (spots.map (restOf spots.length wide slant)) = rangeL 0 1 spots.length)
noncomputable def fillsS (srt : Srt) (spots : List Int) : Bool := (List.range spots.length).any fun k => (List.range (slants spots.length k)).any fun j => fillsAtS srt spots ((1 : Int) + (k : Nat) * 1) ((0 : Int) + (j : Nat) * 1)
theorem fillsS_eq : fillsF = fillsS insort := by rw [← isort_eq]; rfl
noncomputable def leftStepS (srt : Srt) (rights : List (Int × Int)) (spots : List Int) (p : Int × Int) : Option (List Int) :=
  if (endsOf rights p.1 p.2).length < 64 then endsFold p.1 p.2 (pk none (some 1) none (srt (endsOf rights p.1 p.2))) spots else none
noncomputable def leftsFoldS (srt : Srt) (rights : List (Int × Int)) : List (Int × Int) → List Int → Option (List Int)
  | [], spots => some spots
  | p :: ps, spots => match leftStepS srt rights spots p with
    | none => none
    | some s' => leftsFoldS srt rights ps s'
theorem leftsFoldS_eq (rights : List (Int × Int)) : ∀ ps spots, leftsFold rights ps spots = leftsFoldS isort rights ps spots
  | [], _ => rfl
  | p :: ps, spots => by
    unfold leftsFold leftsFoldS
    rw [show leftStepS isort rights spots p = leftStep rights spots p from rfl]
    cases leftStep rights spots p with
    | none => rfl
    | some s' => exact leftsFoldS_eq rights ps s'
noncomputable def readS (srt : Srt) (rows : List (List Nat)) : Option (List Int) :=
  match rowsFold rows (0, 0, [], []) with
  | none => none
  | some st => if st.2.2.2.length ≤ 1000 ∧ st.2.2.1.length ≤ 1000 then leftsFoldS srt st.2.2.2 st.2.2.1 [] else none
theorem readS_eq (rows : List (List Nat)) : readF rows = readS insort rows := by
  rw [← isort_eq]
  unfold readF readS
  cases rowsFold rows (0, 0, [], []) with
  | none => rfl
  | some st => simp only [leftsFoldS_eq]
noncomputable def goodT (C : List Int) (t : List Nat) (r : List Int) : Bool :=
  decide (t ≠ []) && decide (t.length ≤ 100) && (t ++ t).all isSign && (turnedF t).all isSign && decide (r.length < 64) && decide (insort r = insort C) && (partedF t == fillsS insort r)
noncomputable def goodB (C : List Int) : Bool := match trace (waysOf C) 0 100 0 [] with
  | none => false
  | some t => match readS insort (rowsOf t) with
    | none => false
    | some r => goodT C t r && decide (((waysOf C).map (·.1)).Nodup) && decide (0 ∈ C) && C.all (fun x => decide (0 ≤ x)) && decide (C.length < 64)
end
section
open _root_.PySem _root_.PySem.W _root_.PySem.Calls _root_.PyProof.Rows
set_option linter.unusedVariables false
set_option linter.deprecated false
set_option maxRecDepth 100000
noncomputable def Rep (L C : List Int) : Prop := ∃ d : Int, L.Perm (C.map fun x => x + d)
theorem Rep.trans {a b c : List Int} (x : Rep a b) (y : Rep b c) : Rep a c := by
  obtain ⟨d, h⟩ := x
  obtain ⟨e, h'⟩ := y
  refine ⟨e + d, h.trans ((h'.map fun x => x + d).trans ?_)⟩
  rw [List.map_map]
  exact List.Perm.of_eq (List.map_congr_left fun x _ => by simp only [Function.comp]; omega)
theorem rep_mem {L C : List Int} {d : Int} (h : L.Perm (C.map fun x => x + d)) (x : Int) : x + d ∈ L ↔ x ∈ C := by
  rw [h.mem_iff, List.mem_map]
  exact ⟨fun ⟨y, hy, e⟩ => by rw [show x = y by omega]; exact hy, fun hx => ⟨x, hx, rfl⟩⟩
theorem freeSteps_sub (sq : List Int) : ∀ (l fr : List Int) (x : Int), x ∈ l.foldl (freeStep sq) fr → x ∈ fr ∨ (x ∈ l ∧ x ∉ sq)
  | [], fr, x, h => .inl h
  | y :: l, fr, x, h => by
    rw [List.foldl_cons] at h
    rcases freeSteps_sub sq l _ x h with h | ⟨h1, h2⟩
    · unfold freeStep at h
      split at h
      · exact .inl h
      · rename_i hn
        rcases List.mem_append.mp h with h | h
        · exact .inl h
        · rw [List.mem_singleton] at h; subst h
          exact .inr ⟨.head _, fun hx => hn (.inl hx)⟩
    · exact .inr ⟨.tail _ h1, h2⟩
theorem freeSqs_sub (sq : List Int) : ∀ (l fr : List Int) (x : Int), x ∈ l.foldl (freeSq sq) fr → x ∈ fr ∨ (x ∉ sq ∧ ∃ q ∈ l, x ∈ sides q)
  | [], fr, x, h => .inl h
  | y :: l, fr, x, h => by
    rw [List.foldl_cons] at h
    rcases freeSqs_sub sq l _ x h with h | ⟨h1, q, h2, h3⟩
    · rcases freeSteps_sub sq (sides y) fr x h with h | ⟨h1, h2⟩
      · exact .inl h
      · exact .inr ⟨h2, y, .head _, h1⟩
    · exact .inr ⟨h1, q, .tail _ h2, h3⟩
theorem mem_free {S : List Int} {x : Int} : x ∈ freeOf S ↔ x ∉ S ∧ ∃ q ∈ S, x ∈ sides q := by
  constructor
  · intro h
    rcases freeSqs_sub S S [] x h with h | h
    · cases h
    · exact h
  · rintro ⟨h1, q, h2, h3⟩
    exact freeSqs_mem S S [] x (.inr ⟨q, h2, h3, h1⟩)
theorem sides_map (q d : Int) : sides (q + d) = (sides q).map (· + d) := by
  have e : ∀ k : Int, q + d + k = q + k + d := fun k => Int.add_right_comm q d k
  show [q + d + 100, q + d + 1, q + d - 100, q + d - 1] = [q + 100 + d, q + 1 + d, q - 100 + d, q - 1 + d]
  rw [e 100, e 1, show q + d - 100 = q - 100 + d from e (-100), show q + d - 1 = q - 1 + d from e (-1)]
theorem sides_shift {x q d : Int} : x + d ∈ sides (q + d) ↔ x ∈ sides q := by
  rw [sides_map, List.mem_map]
  refine ⟨fun ⟨y, hy, e⟩ => ?_, fun h => ⟨x, h, rfl⟩⟩
  have e : y + d = x + d := e
  rw [show x = y by omega]; exact hy
theorem rep_grow {L C : List Int} (R : Rep L C) {x : Int} (hx : x ∈ freeOf L) : ∃ y ∈ freeOf C, Rep (L ++ [x]) (C ++ [y]) := by
  obtain ⟨d, h⟩ := R
  obtain ⟨h1, q, h2, h3⟩ := mem_free.mp hx
  refine ⟨x - d, mem_free.mpr ⟨fun hy => h1 ?_, q - d, ?_, ?_⟩, d, ?_⟩
  · have := (rep_mem h (x - d)).mpr hy
    rwa [show x - d + d = x by omega] at this
  · have := (rep_mem h (q - d)).mp (by rw [show q - d + d = q by omega]; exact h2)
    exact this
  · have : x - d + d ∈ sides (q - d + d) := by rw [show x - d + d = x by omega, show q - d + d = q by omega]; exact h3
    exact sides_shift.mp this
  · rw [List.map_append]
    have : [x - d].map (fun x => x + d) = [x] := by simp
    rw [this]
    exact h.append_right [x]
noncomputable def norm (l : List Int) : List Int := match insort l with
  | [] => []
  | a :: r => (a :: r).map fun x => x - a
theorem rep_norm (l : List Int) : Rep l (norm l) := by
  have hp := insort_perm l
  unfold norm
  cases h : insort l with
  | nil => rw [h] at hp; exact ⟨0, by simpa using hp.symm⟩
  | cons a r =>
    rw [h] at hp
    refine ⟨a, hp.symm.trans ?_⟩
    rw [List.map_map]
    refine List.Perm.of_eq ?_
    conv => lhs; rw [← List.map_id (a :: r)]
    exact List.map_congr_left fun x _ => by simp only [Function.comp, id]; omega
noncomputable def dd : List (List Int) → List (List Int)
  | [] => []
  | x :: r => let s := dd r; if s.contains x then s else x :: s
theorem mem_dd {x : List Int} : ∀ {l : List (List Int)}, x ∈ l → x ∈ dd l
  | y :: r, h => by
    unfold dd
    dsimp only
    rcases List.mem_cons.mp h with rfl | h
    · split
      · rename_i hc; exact List.contains_iff_mem.mp hc
      · exact .head _
    · have := mem_dd h
      split
      · exact this
      · exact .tail _ this
noncomputable def next (T : List (List Int)) : List (List Int) := dd (T.flatMap fun C => (freeOf C).map fun y => norm (C ++ [y]))
theorem next_mem {T : List (List Int)} {C : List Int} {y : Int} (hC : C ∈ T) (hy : y ∈ freeOf C) : norm (C ++ [y]) ∈ next T := by
  refine mem_dd ?_
  rw [List.mem_flatMap]
  exact ⟨C, hC, List.mem_map_of_mem hy⟩
theorem grow_rep {T : List (List Int)} {L C : List Int} (hne : L ≠ []) (hC : C ∈ T) (R : Rep L C) (d : Int) : ∃ C' ∈ next T, Rep (grow L d) C' := by
  have hpos := freeOf_ne hne
  have hlt : (d.fmod (freeOf L).length).toNat < (freeOf L).length := by
    have h1 := Int.emod_nonneg d (b := ((freeOf L).length : Int)) (by omega)
    have h2 := Int.emod_lt_of_pos d (b := ((freeOf L).length : Int)) (by omega)
    rw [Int.fmod_eq_emod_of_nonneg _ (by omega)]
    omega
  have hx : (freeOf L).getD (d.fmod (freeOf L).length).toNat 0 ∈ freeOf L := by
    rw [List.getD_eq_getElem?_getD, List.getElem?_eq_getElem hlt]
    exact List.getElem_mem hlt
  obtain ⟨y, hy, R'⟩ := rep_grow R hx
  exact ⟨_, next_mem hC hy, R'.trans (rep_norm _)⟩
noncomputable def tbl : Nat → List (List Int)
  | 0 => [[0]]
  | n + 1 => next (tbl n)
theorem grows_rep : ∀ (ds : List Int) {n : Nat} {L C : List Int}, L ≠ [] → C ∈ tbl n → Rep L C → ∃ C' ∈ tbl (n + ds.length), Rep (ds.foldl grow L) C'
  | [], n, L, C, _, hC, R => ⟨C, hC, R⟩
  | d :: ds, n, L, C, hne, hC, R => by
    obtain ⟨C', hC', R'⟩ := grow_rep hne hC R d
    obtain ⟨C'', h1, h2⟩ := grows_rep ds (n := n + 1) (L := grow L d) (by simp [grow]) hC' R'
    refine ⟨C'', ?_, h2⟩
    rw [List.length_cons, show n + (ds.length + 1) = n + 1 + ds.length by omega]; exact h1
theorem grown_rep (ds : List Int) : ∃ C ∈ tbl ds.length, Rep (grown ds) C := by
  have := grows_rep ds (n := 0) (L := [707]) (C := [0]) (by simp) (.head _) ⟨707, by simp⟩
  simpa [grown] using this
end
section
open _root_.PySem _root_.PySem.W _root_.PySem.Calls _root_.PyProof.Rows
set_option linter.unusedVariables false
set_option linter.deprecated false
set_option maxRecDepth 100000
noncomputable def entR (S : List Int) (q : Int) : Ways :=
  (if q - 100 ∈ S then [] else [(q + 1, [124])]) ++ ((if q + 1 ∈ S then [] else [(q + 101, [60])]) ++ ((if q + 100 ∈ S then [] else [(q + 100, [94])]) ++ (if q - 1 ∈ S then [] else [(q, [62])])))
theorem wput_eq (S : List Int) (near at_ : Int) (s : List Nat) (d : Ways) : wput S near at_ s d = (if near ∈ S then [] else [(at_, s)]) ++ d := by
  unfold wput; split <;> rfl
theorem wayStep_eq (S : List Int) (d : Ways) (q : Int) : wayStep S d q = entR S q ++ d := by
  unfold wayStep entR
  simp only [wput_eq, List.append_assoc]
theorem ways_perm (S : List Int) : ∀ (l : List Int) (d : Ways), (l.foldl (wayStep S) d).Perm (l.flatMap (entR S) ++ d)
  | [], d => .refl _
  | x :: l, d => by
    rw [List.foldl_cons, wayStep_eq, List.flatMap_cons]
    refine (ways_perm S l _).trans ?_
    rw [← List.append_assoc]
    exact List.Perm.append_right d (List.perm_append_comm)
theorem waysOf_perm (S : List Int) : (waysOf S).Perm (S.flatMap (entR S)) := by
  have := ways_perm S S []
  rw [List.append_nil] at this
  exact this
noncomputable def sh (d : Int) (p : Int × List Nat) : Int × List Nat := (p.1 + d, p.2)
theorem entR_shift {L C : List Int} {d : Int} (h : ∀ x, x + d ∈ L ↔ x ∈ C) (q : Int) : entR L (q + d) = (entR C q).map (sh d) := by
  have e1 : (q + d - 100 ∈ L) = (q - 100 ∈ C) := propext (by rw [show q + d - 100 = q - 100 + d by omega]; exact h _)
  have e2 : (q + d + 1 ∈ L) = (q + 1 ∈ C) := propext (by rw [show q + d + 1 = q + 1 + d by omega]; exact h _)
  have e3 : (q + d + 100 ∈ L) = (q + 100 ∈ C) := propext (by rw [show q + d + 100 = q + 100 + d by omega]; exact h _)
  have e4 : (q + d - 1 ∈ L) = (q - 1 ∈ C) := propext (by rw [show q + d - 1 = q - 1 + d by omega]; exact h _)
  unfold entR
  simp only [e1, e2, e3, e4, List.map_append]
  have s1 : q + d + 1 = q + 1 + d := by omega
  have s2 : q + d + 101 = q + 101 + d := by omega
  have s3 : q + d + 100 = q + 100 + d := by omega
  rw [s1, s2, s3]
  congr 1
  · split <;> rfl
  · congr 1
    · split <;> rfl
    · congr 1
      · split <;> rfl
      · split <;> rfl
theorem mem_lookup {l : Ways} (hn : (l.map (·.1)).Nodup) {k : Int} {v : List Nat} : l.lookup k = some v ↔ (k, v) ∈ l := by
  induction l with
  | nil => simp
  | cons p r ih =>
    obtain ⟨a, b⟩ := p
    rw [List.map_cons, List.nodup_cons] at hn
    rw [List.lookup_cons]
    by_cases hk : k = a
    · subst hk
      simp only [beq_self_eq_true, List.mem_cons, Prod.mk.injEq, true_and]
      constructor
      · intro e; exact .inl (Option.some.inj e).symm
      · rintro (rfl | hm)
        · rfl
        · exact absurd (List.mem_map_of_mem (f := (·.1)) hm) hn.1
    · have : (k == a) = false := by simpa using hk
      rw [this]
      simp only [List.mem_cons, Prod.mk.injEq, hk, false_and, false_or]
      exact ih hn.2
theorem lookup_perm {l l' : Ways} (h : l.Perm l') (hn : (l'.map (·.1)).Nodup) (k : Int) : l.lookup k = l'.lookup k := by
  have hn' : (l.map (·.1)).Nodup := (h.map (·.1)).nodup_iff.mpr hn
  apply Option.ext
  intro v
  rw [mem_lookup hn', mem_lookup hn, h.mem_iff]
theorem lookup_shift (d : Int) : ∀ (l : Ways) (p : Int), (l.map (sh d)).lookup (p + d) = l.lookup p
  | [], _ => rfl
  | (a, b) :: r, p => by
    rw [List.map_cons, show sh d (a, b) = (a + d, b) from rfl, List.lookup_cons, List.lookup_cons, lookup_shift d r p]
    have : (p + d == a + d) = (p == a) := by
      rw [Bool.eq_iff_iff, beq_iff_eq, beq_iff_eq]; omega
    rw [this]
theorem nodup_shift {l : Ways} (d : Int) (h : (l.map (·.1)).Nodup) : ((l.map (sh d)).map (·.1)).Nodup := by
  rw [List.map_map]
  have : ((fun p : Int × List Nat => p.1) ∘ sh d) = (fun x => x + d) ∘ (fun p : Int × List Nat => p.1) := rfl
  rw [this, ← List.map_map]
  exact List.pairwise_map.mpr (List.Pairwise.imp (fun hab e => hab (by omega)) h)
theorem ways_rep {L C : List Int} {d : Int} (h : L.Perm (C.map fun x => x + d)) (hn : ((waysOf C).map (·.1)).Nodup) (p : Int) : (waysOf L).lookup (p + d) = (waysOf C).lookup p := by
  rw [← lookup_shift d (waysOf C) p]
  refine lookup_perm ?_ (nodup_shift d hn) _
  have hm := rep_mem h
  refine (waysOf_perm L).trans ((h.flatMap_right (entR L)).trans ?_)
  rw [List.flatMap_map]
  have : (C.flatMap fun x => entR L (x + d)) = (C.flatMap (entR C)).map (sh d) := by
    rw [List.map_flatMap]
    exact congrArg (fun g => C.flatMap g) (funext fun q => entR_shift hm q)
  rw [this]
  exact ((waysOf_perm C).map (sh d)).symm
theorem trace_rep {D D' : Ways} {d : Int} (h : ∀ p, D.lookup (p + d) = D'.lookup p) (s : Int) : ∀ (n : Nat) (p : Int) (t : List Nat), trace D (s + d) n (p + d) t = trace D' s n p t
  | 0, _, _ => rfl
  | n + 1, p, t => by
    unfold trace
    have e : (p + d = s + d ∧ t ≠ []) = (p = s ∧ t ≠ []) := propext ⟨fun ⟨a, b⟩ => ⟨by omega, b⟩, fun ⟨a, b⟩ => ⟨by omega, b⟩⟩
    simp only [e, h p]
    split
    · rfl
    · cases D'.lookup p with
      | none => rfl
      | some s' =>
        dsimp only
        cases disps.lookup s' with
        | none => rfl
        | some x =>
          dsimp only
          rw [show p + d + x = p + x + d by omega]
          exact trace_rep h s n (p + x) _
theorem good_rep {L C : List Int} (R : Rep L C) (hg : goodB C = true) : ∃ m N t r, Good L m N t r := by
  obtain ⟨d, h⟩ := R
  unfold goodB at hg
  cases ht : trace (waysOf C) 0 100 0 [] with
  | none => rw [ht] at hg; cases hg
  | some t =>
    rw [ht] at hg
    dsimp only at hg
    cases hr : readS insort (rowsOf t) with
    | none => rw [hr] at hg; cases hg
    | some r =>
      rw [hr] at hg
      dsimp only at hg
      simp only [goodT, Bool.and_eq_true, decide_eq_true_eq, List.all_eq_true, beq_iff_eq] at hg
      obtain ⟨⟨⟨⟨⟨⟨⟨⟨⟨⟨a1, a2⟩, a3⟩, a4⟩, a5⟩, a6⟩, a7⟩, a8⟩, a9⟩, b1⟩, b2⟩ := hg
      have hm := rep_mem h
      have key : (L.map fun x => x - d).Perm C := by
        refine (h.map fun x => x - d).trans ?_
        rw [List.map_map]
        refine List.Perm.of_eq ?_
        conv => rhs; rw [← List.map_id C]
        exact List.map_congr_left fun x _ => by simp only [Function.comp, id]; omega
      refine ⟨d, 100, t, r, ⟨?_, ?_, fun x hx => ?_, by decide, ?_, a1, a2, List.all_eq_true.mpr a3, List.all_eq_true.mpr a4, by rw [readS_eq]; exact hr, a5, ?_, by rw [fillsS_eq]; exact a7⟩⟩
      · have := h.length_eq; rw [List.length_map] at this; omega
      · have := (hm 0).mpr a9; rwa [show (0 : Int) + d = d by omega] at this
      · have hx' : x - d ∈ C := (hm (x - d)).mp (by rw [show x - d + d = x by omega]; exact hx)
        have := b1 _ hx'; omega
      · have := trace_rep (ways_rep h a8) 0 100 0 []
        rw [show (0 : Int) + d = d by omega] at this
        rw [this]; exact ht
      · rw [isort_perm key, isort_eq]; exact a6
end
section
open _root_.PySem _root_.PySem.W _root_.PySem.Calls _root_.PyProof.Rows
set_option linter.unusedVariables false
set_option maxRecDepth 100000
noncomputable abbrev Pic := List Int × List Nat × List Nat × List Int
noncomputable def goodL (C : List Int) (t mi : List Nat) (r : List Int) : Bool :=
  decide (trace (waysOf C) 0 100 0 [] = some t) && decide (mirrorF t = mi) && decide (readS insort (rowsOf t) = some r) && decide (t ≠ []) && decide (t.length ≤ 100) && (t ++ t).all isSign && (turnedF t).all isSign && decide (r.length < 64) && decide (insort r = insort C) &&
  (partedG (t ++ t) mi (t.length / 2) ((t ++ t).length : Nat) == fillsS insort r) && decide (((waysOf C).map (·.1)).Nodup) && decide (0 ∈ C) && C.all (fun x => decide (0 ≤ x)) && decide (C.length < 64)
noncomputable def Pic.ok (p : Pic) : Bool := goodL p.1 p.2.1 p.2.2.1 p.2.2.2
noncomputable def pics5a : List Pic := [([0,100,200,300,400],[62,62,62,62,62,94,60,60,60,60,60,124],[94,62,62,62,62,62,124,60,60,60,60,60,94,62,62,62,62,62,124,60,60,60,60,60],[0,100,200,300,400]),
 ([0,1,100,200,300],[62,62,62,62,94,60,60,60,94,60,124,124],[94,94,62,124,62,62,62,124,60,60,60,60,94,94,62,124,62,62,62,124,60,60,60,60],[1,0,100,200,300]),
 ([0,1,100,200,201],[62,62,62,94,94,60,124,60,94,60,124,124],[94,94,62,124,62,94,62,124,124,60,60,60,94,94,62,124,62,94,62,124,124,60,60,60],[201,1,0,100,200]),
 ([0,100,200,300,301],[62,62,62,62,94,94,60,124,60,60,60,124],[94,62,62,62,94,62,124,124,60,60,60,60,94,62,62,62,94,62,124,124,60,60,60,60],[301,0,100,200,300]),
 ([0,100,200,201,300],[62,62,62,62,94,60,94,60,124,60,60,124],[94,62,62,94,62,124,62,124,60,60,60,60,94,62,62,94,62,124,62,124,60,60,60,60],[201,0,100,200,300]),
 ([0,100,101,200,300],[62,62,62,62,94,60,60,94,60,124,60,124],[94,62,94,62,124,62,62,124,60,60,60,60,94,62,94,62,124,62,62,124,60,60,60,60],[101,0,100,200,300]),
 ([0,100,200,201,301],[62,62,62,94,62,94,60,60,124,60,60,124],[94,62,62,94,62,62,124,60,124,60,60,60,94,62,62,94,62,62,124,60,124,60,60,60],[201,301,0,100,200]),
 ([0,100,101,201,301],[62,62,94,62,62,94,60,60,60,124,60,124],[94,62,94,62,62,62,124,60,60,124,60,60,94,62,94,62,62,62,124,60,60,124,60,60],[101,201,301,0,100]),
 ([0,1,101,201,301],[62,94,62,62,62,94,60,60,60,60,124,124],[94,94,62,62,62,62,124,60,60,60,124,60,94,94,62,62,62,62,124,60,60,60,124,60],[1,101,201,301,0]),
 ([0,1,101,201,202],[62,94,62,62,94,94,60,124,60,60,124,124],[94,94,62,62,94,62,124,124,60,60,124,60,94,94,62,62,94,62,124,124,60,60,124,60],[202,1,101,201,0]),
 ([0,100,101,201,202],[62,62,94,62,94,94,60,124,60,124,60,124],[94,62,94,62,94,62,124,124,60,124,60,60,94,62,94,62,94,62,124,124,60,124,60,60],[202,101,201,0,100]),
 ([0,1,101,102,201],[62,94,62,62,94,60,94,60,124,60,124,124],[94,94,62,94,62,124,62,124,60,60,124,60,94,94,62,94,62,124,62,124,60,60,124,60],[102,1,101,201,0]),
 ([0,1,101,102,202],[62,94,62,94,62,94,60,60,124,60,124,124],[94,94,62,94,62,62,124,60,124,60,124,60,94,94,62,94,62,62,124,60,124,60,124,60],[102,202,1,101,0]),
 ([0,1,2,100,200],[62,62,62,94,60,60,94,94,60,124,124,124],[94,94,94,62,124,124,62,62,124,60,60,60,94,94,94,62,124,124,62,62,124,60,60,60],[2,1,0,100,200]),
 ([0,100,200,201,202],[62,62,62,94,94,94,60,124,124,60,60,124],[94,62,62,94,94,62,124,124,124,60,60,60,94,62,62,94,94,62,124,124,124,60,60,60],[202,201,0,100,200]),
 ([0,1,101,102,103],[62,94,62,94,94,94,60,124,124,60,124,124],[94,94,62,94,94,62,124,124,124,60,124,60,94,94,62,94,94,62,124,124,124,60,124,60],[103,102,1,101,0]),
 ([0,100,101,102,200],[62,62,62,94,60,94,94,60,124,124,60,124],[94,62,94,94,62,124,124,62,124,60,60,60,94,62,94,94,62,124,124,62,124,60,60,60],[102,101,0,100,200]),
 ([0,100,101,102,201],[62,62,94,62,94,60,94,60,124,124,60,124],[94,62,94,94,62,124,62,124,60,124,60,60,94,62,94,94,62,124,62,124,60,124,60,60],[102,101,201,0,100]),
 ([0,1,2,101,201],[62,94,62,62,94,60,60,94,60,124,124,124],[94,94,94,62,124,62,62,124,60,60,124,60,94,94,94,62,124,62,62,124,60,60,124,60],[2,1,101,201,0]),
 ([0,1,2,100,102],[62,62,94,60,94,62,94,60,60,124,124,124],[94,94,94,62,62,124,60,124,62,124,60,60,94,94,94,62,62,124,60,124,62,124,60,60],[2,102,1,0,100]),
 ([0,100,101,102,202],[62,62,94,94,62,94,60,60,124,124,60,124],[94,62,94,94,62,62,124,60,124,124,60,60,94,62,94,94,62,62,124,60,124,124,60,60],[102,202,101,0,100]),
 ([0,1,2,102,202],[62,94,94,62,62,94,60,60,60,124,124,124],[94,94,94,62,62,62,124,60,60,124,124,60,94,94,94,62,62,62,124,60,60,124,124,60],[2,102,202,1,0]),
 ([0,1,2,102,103],[62,94,94,62,94,94,60,124,60,124,124,124],[94,94,94,62,94,62,124,124,60,124,124,60,94,94,94,62,94,62,124,124,60,124,124,60],[103,2,102,1,0]),
 ([0,1,2,3,100],[62,62,94,60,94,94,94,60,124,124,124,124],[94,94,94,94,62,124,124,124,62,124,60,60,94,94,94,94,62,124,124,124,62,124,60,60],[3,2,1,0,100])]
theorem pics5a_ok : pics5a.all Pic.ok = true := by decide +kernel
noncomputable def pics5b : List Pic := [([0,100,101,102,103],[62,62,94,94,94,94,60,124,124,124,60,124],[94,62,94,94,94,62,124,124,124,124,60,60,94,62,94,94,94,62,124,124,124,124,60,60],[103,102,101,0,100]),
 ([0,1,2,3,101],[62,94,62,94,60,94,94,60,124,124,124,124],[94,94,94,94,62,124,124,62,124,60,124,60,94,94,94,94,62,124,124,62,124,60,124,60],[3,2,1,101,0]),
 ([0,1,2,3,102],[62,94,94,62,94,60,94,60,124,124,124,124],[94,94,94,94,62,124,62,124,60,124,124,60,94,94,94,94,62,124,62,124,60,124,124,60],[3,2,102,1,0]),
 ([0,1,2,3,103],[62,94,94,94,62,94,60,60,124,124,124,124],[94,94,94,94,62,62,124,60,124,124,124,60,94,94,94,94,62,62,124,60,124,124,124,60],[3,103,2,1,0]),
 ([0,1,2,3,4],[62,94,94,94,94,94,60,124,124,124,124,124],[94,94,94,94,94,62,124,124,124,124,124,60,94,94,94,94,94,62,124,124,124,124,124,60],[4,3,2,1,0]),
 ([0,1,2,99,100],[62,124,62,94,94,60,94,94,60,124,124,124],[94,94,94,62,124,124,62,124,124,60,94,60,94,94,94,62,124,124,62,124,124,60,94,60],[99,2,1,0,100]),
 ([0,1,100,199,200],[62,62,124,62,94,94,60,60,94,60,124,124],[94,94,62,124,62,62,124,124,60,94,60,60,94,94,62,124,62,62,124,124,60,94,60,60],[199,1,0,100,200]),
 ([0,100,200,299,300],[62,62,62,124,62,94,94,60,60,60,60,124],[94,62,62,62,62,124,124,60,94,60,60,60,94,62,62,62,62,124,124,60,94,60,60,60],[299,0,100,200,300]),
 ([0,1,101,200,201],[62,94,62,124,62,94,94,60,60,60,124,124],[94,94,62,62,62,124,124,60,94,60,124,60,94,94,62,62,62,124,124,60,94,60,124,60],[200,1,101,201,0]),
 ([0,100,101,199,200],[62,62,124,62,94,94,60,94,60,124,60,124],[94,62,94,62,124,62,124,124,60,94,60,60,94,62,94,62,124,62,124,124,60,94,60,60],[199,101,0,100,200]),
 ([0,100,101,200,201],[62,62,62,94,94,60,60,124,60,124],[94,62,94,62,62,124,124,60,60,60,94,62,94,62,62,124,124,60,60,60],[101,201,0,100,200]),
 ([0,1,2,101,102],[62,94,62,94,94,60,60,124,124,124],[94,94,94,62,62,124,124,60,124,60,94,94,94,62,62,124,124,60,124,60],[2,102,1,101,0]),
 ([0,1,2,100,101],[62,62,94,94,60,94,60,124,124,124],[94,94,94,62,124,62,124,124,60,60,94,94,94,62,124,62,124,124,60,60],[2,1,101,0,100]),
 ([0,1,99,100,199],[62,124,62,62,94,60,94,60,94,60,124,124],[94,94,62,124,62,124,62,124,60,60,94,60,94,94,62,124,62,124,62,124,60,60,94,60],[99,199,1,0,100]),
 ([0,100,199,200,299],[62,62,124,62,62,94,60,94,60,60,60,124],[94,62,62,62,124,62,124,60,60,94,60,60,94,62,62,62,124,62,124,60,60,94,60,60],[199,299,0,100,200]),
 ([0,1,100,101,200],[62,62,62,94,60,94,60,60,124,124],[94,94,62,62,124,62,124,60,60,60,94,94,62,62,124,62,124,60,60,60],[1,101,0,100,200]),
 ([0,99,100,199,299],[62,124,62,62,62,94,60,60,94,60,60,124],[94,62,62,124,62,62,124,60,60,60,94,60,94,62,62,124,62,62,124,60,60,60,94,60],[99,199,299,0,100]),
 ([0,99,100,198,199],[62,124,62,124,62,94,94,60,94,60,60,124],[94,62,62,124,62,124,124,60,94,60,94,60,94,62,62,124,62,124,124,60,94,60,94,60],[99,199,198,0,100]),
 ([0,1,98,99,100],[62,124,124,62,94,94,94,60,94,60,124,124],[94,94,62,124,62,124,124,124,60,94,94,60,94,94,62,124,62,124,124,124,60,94,94,60],[99,98,1,0,100]),
 ([0,100,198,199,200],[62,62,124,124,62,94,94,94,60,60,60,124],[94,62,62,62,124,124,124,60,94,94,60,60,94,62,62,62,124,124,124,60,94,94,60,60],[199,198,0,100,200]),
 ([0,98,99,100,198],[62,124,124,62,62,94,60,94,94,60,60,124],[94,62,62,124,124,62,124,60,60,94,94,60,94,62,62,124,124,62,124,60,60,94,94,60],[99,98,198,0,100]),
 ([0,2,100,101,102],[62,62,94,94,94,60,60,124,62,124,60,124],[94,62,94,60,94,62,62,124,124,124,60,60,94,62,94,60,94,62,62,124,124,124,60,60],[2,102,101,0,100]),
 ([0,97,98,99,100],[62,124,124,124,62,94,94,94,94,60,60,124],[94,62,62,124,124,124,124,60,94,94,94,60,94,62,62,124,124,124,124,60,94,94,94,60],[99,98,97,0,100]),
 ([0,98,99,100,199],[62,124,124,62,94,62,94,60,94,60,60,124],[94,62,62,124,62,124,60,124,60,94,94,60,94,62,62,124,62,124,60,124,60,94,94,60],[99,199,98,0,100])]
theorem pics5b_ok : pics5b.all Pic.ok = true := by decide +kernel
noncomputable def pics5c : List Pic := [([0,1,99,100,200],[62,124,62,94,62,94,60,60,94,60,124,124],[94,94,62,124,62,62,124,60,124,60,94,60,94,94,62,124,62,62,124,60,124,60,94,60],[99,1,0,100,200]),
 ([0,100,199,200,300],[62,62,124,62,94,62,94,60,60,60,60,124],[94,62,62,62,62,124,60,124,60,94,60,60,94,62,62,62,62,124,60,124,60,94,60,60],[199,0,100,200,300]),
 ([0,1,100,101,201],[62,62,94,62,94,60,60,60,124,124],[94,94,62,62,62,124,60,124,60,60,94,94,62,62,62,124,60,124,60,60],[1,101,201,0,100]),
 ([0,99,100,199,200],[62,124,62,62,94,94,60,60,60,124],[94,62,62,62,124,124,60,60,94,60,94,62,62,62,124,124,60,60,94,60],[99,199,0,100,200]),
 ([0,98,99,100,200],[62,124,124,62,94,94,62,94,60,60,60,124],[94,62,62,62,124,60,124,124,60,94,94,60,94,62,62,62,124,60,124,124,60,94,94,60],[99,98,0,100,200]),
 ([0,99,100,200,300],[62,124,62,94,62,62,94,60,60,60,60,124],[94,62,62,62,62,124,60,60,124,60,94,60,94,62,62,62,62,124,60,60,124,60,94,60],[99,0,100,200,300]),
 ([0,99,100,200,201],[62,124,62,94,62,94,94,60,124,60,60,124],[94,62,62,94,62,124,124,60,124,60,94,60,94,62,62,94,62,124,124,60,124,60,94,60],[99,201,0,100,200]),
 ([0,1,99,100,101],[62,124,62,94,94,94,60,60,124,124],[94,94,62,62,124,124,124,60,94,60,94,94,62,62,124,124,124,60,94,60],[99,1,101,0,100]),
 ([0,100,199,200,201],[62,62,124,62,94,94,94,60,124,60,60,124],[94,62,62,94,62,124,124,124,60,94,60,60,94,62,62,94,62,124,124,124,60,94,60,60],[199,201,0,100,200]),
 ([0,1,100,101,102],[62,62,94,94,94,60,124,60,124,124],[94,94,62,94,62,124,124,124,60,60,94,94,62,94,62,124,124,124,60,60],[102,1,101,0,100]),
 ([0,99,100,101,199],[62,124,62,62,94,60,94,94,60,124,60,124],[94,62,94,62,124,124,62,124,60,60,94,60,94,62,94,62,124,124,62,124,60,60,94,60],[99,199,101,0,100]),
 ([0,98,99,100,101],[62,124,124,62,94,94,94,94,60,124,60,124],[94,62,94,62,124,124,124,124,60,94,94,60,94,62,94,62,124,124,124,124,60,94,94,60],[99,98,101,0,100]),
 ([0,99,100,101,200],[62,124,62,94,62,94,60,94,60,124,60,124],[94,62,94,62,124,62,124,60,124,60,94,60,94,62,94,62,124,62,124,60,124,60,94,60],[99,101,0,100,200]),
 ([0,99,100,101,201],[62,124,62,94,94,62,94,60,60,124,60,124],[94,62,94,62,62,124,60,124,124,60,94,60,94,62,94,62,62,124,60,124,124,60,94,60],[99,101,201,0,100]),
 ([0,99,100,101,102],[62,124,62,94,94,94,94,60,124,124,60,124],[94,62,94,94,62,124,124,124,124,60,94,60,94,62,94,94,62,124,124,124,124,60,94,60],[99,102,101,0,100])]
theorem pics5c_ok : pics5c.all Pic.ok = true := by decide +kernel
noncomputable def pics5 : List Pic := pics5a ++ (pics5b ++ (pics5c))
theorem pics5_ok : pics5.all Pic.ok = true := by
  simp only [pics5, List.all_append, pics5a_ok, pics5b_ok, pics5c_ok, Bool.and_self]
noncomputable def pics6a : List Pic := [([0,100,200,300,400,500],[62,62,62,62,62,62,94,60,60,60,60,60,60,124],[94,62,62,62,62,62,62,124,60,60,60,60,60,60,94,62,62,62,62,62,62,124,60,60,60,60,60,60],[0,100,200,300,400,500]),
 ([0,1,100,200,300,400],[62,62,62,62,62,94,60,60,60,60,94,60,124,124],[94,94,62,124,62,62,62,62,124,60,60,60,60,60,94,94,62,124,62,62,62,62,124,60,60,60,60,60],[1,0,100,200,300,400]),
 ([0,1,100,200,300,301],[62,62,62,62,94,94,60,124,60,60,94,60,124,124],[94,94,62,124,62,62,94,62,124,124,60,60,60,60,94,94,62,124,62,62,94,62,124,124,60,60,60,60],[301,1,0,100,200,300]),
 ([0,100,200,300,400,401],[62,62,62,62,62,94,94,60,124,60,60,60,60,124],[94,62,62,62,62,94,62,124,124,60,60,60,60,60,94,62,62,62,62,94,62,124,124,60,60,60,60,60],[401,0,100,200,300,400]),
 ([0,1,100,200,201,300],[62,62,62,62,94,60,94,60,124,60,94,60,124,124],[94,94,62,124,62,94,62,124,62,124,60,60,60,60,94,94,62,124,62,94,62,124,62,124,60,60,60,60],[201,1,0,100,200,300]),
 ([0,100,200,300,301,400],[62,62,62,62,62,94,60,94,60,124,60,60,60,124],[94,62,62,62,94,62,124,62,124,60,60,60,60,60,94,62,62,62,94,62,124,62,124,60,60,60,60,60],[301,0,100,200,300,400]),
 ([0,100,200,201,300,400],[62,62,62,62,62,94,60,60,94,60,124,60,60,124],[94,62,62,94,62,124,62,62,124,60,60,60,60,60,94,62,62,94,62,124,62,62,124,60,60,60,60,60],[201,0,100,200,300,400]),
 ([0,100,101,200,300,400],[62,62,62,62,62,94,60,60,60,94,60,124,60,124],[94,62,94,62,124,62,62,62,124,60,60,60,60,60,94,62,94,62,124,62,62,62,124,60,60,60,60,60],[101,0,100,200,300,400]),
 ([0,100,101,200,300,301],[62,62,62,62,94,94,60,124,60,94,60,124,60,124],[94,62,94,62,124,62,94,62,124,124,60,60,60,60,94,62,94,62,124,62,94,62,124,124,60,60,60,60],[301,101,0,100,200,300]),
 ([0,1,100,200,201,301],[62,62,62,94,62,94,60,60,124,60,94,60,124,124],[94,94,62,124,62,94,62,62,124,60,124,60,60,60,94,94,62,124,62,94,62,62,124,60,124,60,60,60],[201,301,1,0,100,200]),
 ([0,100,200,300,301,401],[62,62,62,62,94,62,94,60,60,124,60,60,60,124],[94,62,62,62,94,62,62,124,60,124,60,60,60,60,94,62,62,62,94,62,62,124,60,124,60,60,60,60],[301,401,0,100,200,300]),
 ([0,100,200,201,301,401],[62,62,62,94,62,62,94,60,60,60,124,60,60,124],[94,62,62,94,62,62,62,124,60,60,124,60,60,60,94,62,62,94,62,62,62,124,60,60,124,60,60,60],[201,301,401,0,100,200]),
 ([0,100,101,201,301,401],[62,62,94,62,62,62,94,60,60,60,60,124,60,124],[94,62,94,62,62,62,62,124,60,60,60,124,60,60,94,62,94,62,62,62,62,124,60,60,60,124,60,60],[101,201,301,401,0,100]),
 ([0,1,101,201,301,401],[62,94,62,62,62,62,94,60,60,60,60,60,124,124],[94,94,62,62,62,62,62,124,60,60,60,60,124,60,94,94,62,62,62,62,62,124,60,60,60,60,124,60],[1,101,201,301,401,0]),
 ([0,1,101,201,301,302],[62,94,62,62,62,94,94,60,124,60,60,60,124,124],[94,94,62,62,62,94,62,124,124,60,60,60,124,60,94,94,62,62,62,94,62,124,124,60,60,60,124,60],[302,1,101,201,301,0]),
 ([0,100,101,201,301,302],[62,62,94,62,62,94,94,60,124,60,60,124,60,124],[94,62,94,62,62,94,62,124,124,60,60,124,60,60,94,62,94,62,62,94,62,124,124,60,60,124,60,60],[302,101,201,301,0,100]),
 ([0,1,101,201,202,301],[62,94,62,62,62,94,60,94,60,124,60,60,124,124],[94,94,62,62,94,62,124,62,124,60,60,60,124,60,94,94,62,62,94,62,124,62,124,60,60,60,124,60],[202,1,101,201,301,0]),
 ([0,1,101,201,202,302],[62,94,62,62,94,62,94,60,60,124,60,60,124,124],[94,94,62,62,94,62,62,124,60,124,60,60,124,60,94,94,62,62,94,62,62,124,60,124,60,60,124,60],[202,302,1,101,201,0]),
 ([0,100,200,201,301,302],[62,62,62,94,62,94,94,60,124,60,124,60,60,124],[94,62,62,94,62,94,62,124,124,60,124,60,60,60,94,62,62,94,62,94,62,124,124,60,124,60,60,60],[302,201,301,0,100,200]),
 ([0,100,101,201,202,301],[62,62,94,62,62,94,60,94,60,124,60,124,60,124],[94,62,94,62,94,62,124,62,124,60,60,124,60,60,94,62,94,62,94,62,124,62,124,60,60,124,60,60],[202,101,201,301,0,100]),
 ([0,1,101,102,201,301],[62,94,62,62,62,94,60,60,94,60,124,60,124,124],[94,94,62,94,62,124,62,62,124,60,60,60,124,60,94,94,62,94,62,124,62,62,124,60,60,60,124,60],[102,1,101,201,301,0]),
 ([0,100,101,201,202,302],[62,62,94,62,94,62,94,60,60,124,60,124,60,124],[94,62,94,62,94,62,62,124,60,124,60,124,60,60,94,62,94,62,94,62,62,124,60,124,60,124,60,60],[202,302,101,201,0,100]),
 ([0,1,101,102,202,302],[62,94,62,94,62,62,94,60,60,60,124,60,124,124],[94,94,62,94,62,62,62,124,60,60,124,60,124,60,94,94,62,94,62,62,62,124,60,60,124,60,124,60],[102,202,302,1,101,0]),
 ([0,1,101,102,202,203],[62,94,62,94,62,94,94,60,124,60,124,60,124,124],[94,94,62,94,62,94,62,124,124,60,124,60,124,60,94,94,62,94,62,94,62,124,124,60,124,60,124,60],[203,102,202,1,101,0])]
theorem pics6a_ok : pics6a.all Pic.ok = true := by decide +kernel
noncomputable def pics6b : List Pic := [([0,1,2,100,200,300],[62,62,62,62,94,60,60,60,94,94,60,124,124,124],[94,94,94,62,124,124,62,62,62,124,60,60,60,60,94,94,94,62,124,124,62,62,62,124,60,60,60,60],[2,1,0,100,200,300]),
 ([0,1,2,100,200,201],[62,62,62,94,94,60,124,60,94,94,60,124,124,124],[94,94,94,62,124,124,62,94,62,124,124,60,60,60,94,94,94,62,124,124,62,94,62,124,124,60,60,60],[201,2,1,0,100,200]),
 ([0,1,100,200,201,202],[62,62,62,94,94,94,60,124,124,60,94,60,124,124],[94,94,62,124,62,94,94,62,124,124,124,60,60,60,94,94,62,124,62,94,94,62,124,124,124,60,60,60],[202,201,1,0,100,200]),
 ([0,100,200,300,301,302],[62,62,62,62,94,94,94,60,124,124,60,60,60,124],[94,62,62,62,94,94,62,124,124,124,60,60,60,60,94,62,62,62,94,94,62,124,124,124,60,60,60,60],[302,301,0,100,200,300]),
 ([0,1,101,201,202,203],[62,94,62,62,94,94,94,60,124,124,60,60,124,124],[94,94,62,62,94,94,62,124,124,124,60,60,124,60,94,94,62,62,94,94,62,124,124,124,60,60,124,60],[203,202,1,101,201,0]),
 ([0,100,101,201,202,203],[62,62,94,62,94,94,94,60,124,124,60,124,60,124],[94,62,94,62,94,94,62,124,124,124,60,124,60,60,94,62,94,62,94,94,62,124,124,124,60,124,60,60],[203,202,101,201,0,100]),
 ([0,100,200,201,202,300],[62,62,62,62,94,60,94,94,60,124,124,60,60,124],[94,62,62,94,94,62,124,124,62,124,60,60,60,60,94,62,62,94,94,62,124,124,62,124,60,60,60,60],[202,201,0,100,200,300]),
 ([0,1,101,102,103,201],[62,94,62,62,94,60,94,94,60,124,124,60,124,124],[94,94,62,94,94,62,124,124,62,124,60,60,124,60,94,94,62,94,94,62,124,124,62,124,60,60,124,60],[103,102,1,101,201,0]),
 ([0,100,101,102,200,300],[62,62,62,62,94,60,60,94,94,60,124,124,60,124],[94,62,94,94,62,124,124,62,62,124,60,60,60,60,94,62,94,94,62,124,124,62,62,124,60,60,60,60],[102,101,0,100,200,300]),
 ([0,100,200,201,202,301],[62,62,62,94,62,94,60,94,60,124,124,60,60,124],[94,62,62,94,94,62,124,62,124,60,124,60,60,60,94,62,62,94,94,62,124,62,124,60,124,60,60,60],[202,201,301,0,100,200]),
 ([0,1,101,102,103,202],[62,94,62,94,62,94,60,94,60,124,124,60,124,124],[94,94,62,94,94,62,124,62,124,60,124,60,124,60,94,94,62,94,94,62,124,62,124,60,124,60,124,60],[103,102,202,1,101,0]),
 ([0,100,101,102,201,301],[62,62,94,62,62,94,60,60,94,60,124,124,60,124],[94,62,94,94,62,124,62,62,124,60,60,124,60,60,94,62,94,94,62,124,62,62,124,60,60,124,60,60],[102,101,201,301,0,100]),
 ([0,1,2,101,201,301],[62,94,62,62,62,94,60,60,60,94,60,124,124,124],[94,94,94,62,124,62,62,62,124,60,60,60,124,60,94,94,94,62,124,62,62,62,124,60,60,60,124,60],[2,1,101,201,301,0]),
 ([0,1,2,101,201,202],[62,94,62,62,94,94,60,124,60,94,60,124,124,124],[94,94,94,62,124,62,94,62,124,124,60,60,124,60,94,94,94,62,124,62,94,62,124,124,60,60,124,60],[202,2,1,101,201,0]),
 ([0,1,2,100,102,200],[62,62,62,94,60,60,94,62,94,60,60,124,124,124],[94,94,94,62,62,124,60,124,62,62,124,60,60,60,94,94,94,62,62,124,60,124,62,62,124,60,60,60],[2,102,1,0,100,200]),
 ([0,100,200,201,202,302],[62,62,62,94,94,62,94,60,60,124,124,60,60,124],[94,62,62,94,94,62,62,124,60,124,124,60,60,60,94,62,62,94,94,62,62,124,60,124,124,60,60,60],[202,302,201,0,100,200]),
 ([0,1,101,102,103,203],[62,94,62,94,94,62,94,60,60,124,124,60,124,124],[94,94,62,94,94,62,62,124,60,124,124,60,124,60,94,94,62,94,94,62,62,124,60,124,124,60,124,60],[103,203,102,1,101,0]),
 ([0,100,101,102,200,202],[62,62,62,94,60,94,62,94,60,60,124,124,60,124],[94,62,94,94,62,62,124,60,124,62,124,60,60,60,94,62,94,94,62,62,124,60,124,62,124,60,60,60],[102,202,101,0,100,200]),
 ([0,1,2,100,102,202],[62,62,94,60,94,62,62,94,60,60,60,124,124,124],[94,94,94,62,62,62,124,60,60,124,62,124,60,60,94,94,94,62,62,62,124,60,60,124,62,124,60,60],[2,102,202,1,0,100]),
 ([0,100,101,102,202,302],[62,62,94,94,62,62,94,60,60,60,124,124,60,124],[94,62,94,94,62,62,62,124,60,60,124,124,60,60,94,62,94,94,62,62,62,124,60,60,124,124,60,60],[102,202,302,101,0,100]),
 ([0,1,2,102,202,302],[62,94,94,62,62,62,94,60,60,60,60,124,124,124],[94,94,94,62,62,62,62,124,60,60,60,124,124,60,94,94,94,62,62,62,62,124,60,60,60,124,124,60],[2,102,202,302,1,0]),
 ([0,1,2,102,202,203],[62,94,94,62,62,94,94,60,124,60,60,124,124,124],[94,94,94,62,62,94,62,124,124,60,60,124,124,60,94,94,94,62,62,94,62,124,124,60,60,124,124,60],[203,2,102,202,1,0]),
 ([0,1,2,100,102,103],[62,62,94,60,94,62,94,94,60,124,60,124,124,124],[94,94,94,62,94,62,124,124,60,124,62,124,60,60,94,94,94,62,94,62,124,124,60,124,62,124,60,60],[103,2,102,1,0,100]),
 ([0,100,101,102,202,203],[62,62,94,94,62,94,94,60,124,60,124,124,60,124],[94,62,94,94,62,94,62,124,124,60,124,124,60,60,94,62,94,94,62,94,62,124,124,60,124,124,60,60],[203,102,202,101,0,100])]
theorem pics6b_ok : pics6b.all Pic.ok = true := by decide +kernel
noncomputable def pics6c : List Pic := [([0,1,2,102,103,202],[62,94,94,62,62,94,60,94,60,124,60,124,124,124],[94,94,94,62,94,62,124,62,124,60,60,124,124,60,94,94,94,62,94,62,124,62,124,60,60,124,124,60],[103,2,102,202,1,0]),
 ([0,1,2,102,103,203],[62,94,94,62,94,62,94,60,60,124,60,124,124,124],[94,94,94,62,94,62,62,124,60,124,60,124,124,60,94,94,94,62,94,62,62,124,60,124,60,124,124,60],[103,203,2,102,1,0]),
 ([0,1,2,102,103,104],[62,94,94,62,94,94,94,60,124,124,60,124,124,124],[94,94,94,62,94,94,62,124,124,124,60,124,124,60,94,94,94,62,94,94,62,124,124,124,60,124,124,60],[104,103,2,102,1,0]),
 ([0,1,2,3,100,200],[62,62,62,94,60,60,94,94,94,60,124,124,124,124],[94,94,94,94,62,124,124,124,62,62,124,60,60,60,94,94,94,94,62,124,124,124,62,62,124,60,60,60],[3,2,1,0,100,200]),
 ([0,100,200,201,202,203],[62,62,62,94,94,94,94,60,124,124,124,60,60,124],[94,62,62,94,94,94,62,124,124,124,124,60,60,60,94,62,62,94,94,94,62,124,124,124,124,60,60,60],[203,202,201,0,100,200]),
 ([0,1,101,102,103,104],[62,94,62,94,94,94,94,60,124,124,124,60,124,124],[94,94,62,94,94,94,62,124,124,124,124,60,124,60,94,94,62,94,94,94,62,124,124,124,124,60,124,60],[104,103,102,1,101,0]),
 ([0,100,101,102,103,200],[62,62,62,94,60,94,94,94,60,124,124,124,60,124],[94,62,94,94,94,62,124,124,124,62,124,60,60,60,94,62,94,94,94,62,124,124,124,62,124,60,60,60],[103,102,101,0,100,200]),
 ([0,100,101,102,103,201],[62,62,94,62,94,60,94,94,60,124,124,124,60,124],[94,62,94,94,94,62,124,124,62,124,60,124,60,60,94,62,94,94,94,62,124,124,62,124,60,124,60,60],[103,102,101,201,0,100]),
 ([0,1,2,3,101,201],[62,94,62,62,94,60,60,94,94,60,124,124,124,124],[94,94,94,94,62,124,124,62,62,124,60,60,124,60,94,94,94,94,62,124,124,62,62,124,60,60,124,60],[3,2,1,101,201,0]),
 ([0,1,2,3,100,102],[62,62,94,60,94,62,94,60,94,60,124,124,124,124],[94,94,94,94,62,124,62,124,60,124,62,124,60,60,94,94,94,94,62,124,62,124,60,124,62,124,60,60],[3,2,102,1,0,100]),
 ([0,100,101,102,103,202],[62,62,94,94,62,94,60,94,60,124,124,124,60,124],[94,62,94,94,94,62,124,62,124,60,124,124,60,60,94,62,94,94,94,62,124,62,124,60,124,124,60,60],[103,102,202,101,0,100]),
 ([0,1,2,3,102,202],[62,94,94,62,62,94,60,60,94,60,124,124,124,124],[94,94,94,94,62,124,62,62,124,60,60,124,124,60,94,94,94,94,62,124,62,62,124,60,60,124,124,60],[3,2,102,202,1,0]),
 ([0,1,2,3,100,103],[62,62,94,60,94,94,62,94,60,60,124,124,124,124],[94,94,94,94,62,62,124,60,124,124,62,124,60,60,94,94,94,94,62,62,124,60,124,124,62,124,60,60],[3,103,2,1,0,100]),
 ([0,100,101,102,103,203],[62,62,94,94,94,62,94,60,60,124,124,124,60,124],[94,62,94,94,94,62,62,124,60,124,124,124,60,60,94,62,94,94,94,62,62,124,60,124,124,124,60,60],[103,203,102,101,0,100]),
 ([0,1,2,3,101,103],[62,94,62,94,60,94,62,94,60,60,124,124,124,124],[94,94,94,94,62,62,124,60,124,62,124,60,124,60,94,94,94,94,62,62,124,60,124,62,124,60,124,60],[3,103,2,1,101,0]),
 ([0,1,2,3,103,203],[62,94,94,94,62,62,94,60,60,60,124,124,124,124],[94,94,94,94,62,62,62,124,60,60,124,124,124,60,94,94,94,94,62,62,62,124,60,60,124,124,124,60],[3,103,203,2,1,0]),
 ([0,1,2,3,103,104],[62,94,94,94,62,94,94,60,124,60,124,124,124,124],[94,94,94,94,62,94,62,124,124,60,124,124,124,60,94,94,94,94,62,94,62,124,124,60,124,124,124,60],[104,3,103,2,1,0]),
 ([0,1,2,3,4,100],[62,62,94,60,94,94,94,94,60,124,124,124,124,124],[94,94,94,94,94,62,124,124,124,124,62,124,60,60,94,94,94,94,94,62,124,124,124,124,62,124,60,60],[4,3,2,1,0,100]),
 ([0,100,101,102,103,104],[62,62,94,94,94,94,94,60,124,124,124,124,60,124],[94,62,94,94,94,94,62,124,124,124,124,124,60,60,94,62,94,94,94,94,62,124,124,124,124,124,60,60],[104,103,102,101,0,100]),
 ([0,1,2,3,4,101],[62,94,62,94,60,94,94,94,60,124,124,124,124,124],[94,94,94,94,94,62,124,124,124,62,124,60,124,60,94,94,94,94,94,62,124,124,124,62,124,60,124,60],[4,3,2,1,101,0]),
 ([0,1,2,3,4,102],[62,94,94,62,94,60,94,94,60,124,124,124,124,124],[94,94,94,94,94,62,124,124,62,124,60,124,124,60,94,94,94,94,94,62,124,124,62,124,60,124,124,60],[4,3,2,102,1,0]),
 ([0,1,2,3,4,103],[62,94,94,94,62,94,60,94,60,124,124,124,124,124],[94,94,94,94,94,62,124,62,124,60,124,124,124,60,94,94,94,94,94,62,124,62,124,60,124,124,124,60],[4,3,103,2,1,0]),
 ([0,1,2,3,4,104],[62,94,94,94,94,62,94,60,60,124,124,124,124,124],[94,94,94,94,94,62,62,124,60,124,124,124,124,60,94,94,94,94,94,62,62,124,60,124,124,124,124,60],[4,104,3,2,1,0]),
 ([0,1,2,3,4,5],[62,94,94,94,94,94,94,60,124,124,124,124,124,124],[94,94,94,94,94,94,62,124,124,124,124,124,124,60,94,94,94,94,94,94,62,124,124,124,124,124,124,60],[5,4,3,2,1,0])]
theorem pics6c_ok : pics6c.all Pic.ok = true := by decide +kernel
noncomputable def pics6d : List Pic := [([0,1,2,99,100,102],[62,124,62,94,94,60,94,62,94,60,60,124,124,124],[94,94,94,62,62,124,60,124,62,124,124,60,94,60,94,94,94,62,62,124,60,124,62,124,124,60,94,60],[99,2,102,1,0,100]),
 ([0,1,2,3,99,100],[62,124,62,94,94,60,94,94,94,60,124,124,124,124],[94,94,94,94,62,124,124,124,62,124,124,60,94,60,94,94,94,94,62,124,124,124,62,124,124,60,94,60],[99,3,2,1,0,100]),
 ([0,1,2,100,199,200],[62,62,124,62,94,94,60,60,94,94,60,124,124,124],[94,94,94,62,124,124,62,62,124,124,60,94,60,60,94,94,94,62,124,124,62,62,124,124,60,94,60,60],[199,2,1,0,100,200]),
 ([0,1,100,200,299,300],[62,62,62,124,62,94,94,60,60,60,94,60,124,124],[94,94,62,124,62,62,62,124,124,60,94,60,60,60,94,94,62,124,62,62,62,124,124,60,94,60,60,60],[299,1,0,100,200,300]),
 ([0,100,200,300,399,400],[62,62,62,62,124,62,94,94,60,60,60,60,60,124],[94,62,62,62,62,62,124,124,60,94,60,60,60,60,94,62,62,62,62,62,124,124,60,94,60,60,60,60],[399,0,100,200,300,400]),
 ([0,1,101,201,300,301],[62,94,62,62,124,62,94,94,60,60,60,60,124,124],[94,94,62,62,62,62,124,124,60,94,60,60,124,60,94,94,62,62,62,62,124,124,60,94,60,60,124,60],[300,1,101,201,301,0]),
 ([0,100,101,200,299,300],[62,62,62,124,62,94,94,60,60,94,60,124,60,124],[94,62,94,62,124,62,62,124,124,60,94,60,60,60,94,62,94,62,124,62,62,124,124,60,94,60,60,60],[299,101,0,100,200,300]),
 ([0,100,101,201,300,301],[62,62,94,62,124,62,94,94,60,60,60,124,60,124],[94,62,94,62,62,62,124,124,60,94,60,124,60,60,94,62,94,62,62,62,124,124,60,94,60,124,60,60],[300,101,201,301,0,100]),
 ([0,1,2,102,201,202],[62,94,94,62,124,62,94,94,60,60,60,124,124,124],[94,94,94,62,62,62,124,124,60,94,60,124,124,60,94,94,94,62,62,62,124,124,60,94,60,124,124,60],[201,2,102,202,1,0]),
 ([0,1,2,101,200,201],[62,94,62,124,62,94,94,60,60,94,60,124,124,124],[94,94,94,62,124,62,62,124,124,60,94,60,124,60,94,94,94,62,124,62,62,124,124,60,94,60,124,60],[200,2,1,101,201,0]),
 ([0,100,200,201,299,300],[62,62,62,124,62,94,94,60,94,60,124,60,60,124],[94,62,62,94,62,124,62,124,124,60,94,60,60,60,94,62,62,94,62,124,62,124,124,60,94,60,60,60],[299,201,0,100,200,300]),
 ([0,1,101,102,200,201],[62,94,62,124,62,94,94,60,94,60,124,60,124,124],[94,94,62,94,62,124,62,124,124,60,94,60,124,60,94,94,62,94,62,124,62,124,124,60,94,60,124,60],[200,102,1,101,201,0]),
 ([0,100,101,102,199,200],[62,62,124,62,94,94,60,94,94,60,124,124,60,124],[94,62,94,94,62,124,124,62,124,124,60,94,60,60,94,62,94,94,62,124,124,62,124,124,60,94,60,60],[199,102,101,0,100,200]),
 ([0,100,200,201,300,301],[62,62,62,62,94,94,60,60,124,60,60,124],[94,62,62,94,62,62,124,124,60,60,60,60,94,62,62,94,62,62,124,124,60,60,60,60],[201,301,0,100,200,300]),
 ([0,1,101,102,201,202],[62,94,62,62,94,94,60,60,124,60,124,124],[94,94,62,94,62,62,124,124,60,60,124,60,94,94,62,94,62,62,124,124,60,60,124,60],[102,202,1,101,201,0]),
 ([0,100,101,102,201,202],[62,62,94,62,94,94,60,60,124,124,60,124],[94,62,94,94,62,62,124,124,60,124,60,60,94,62,94,94,62,62,124,124,60,124,60,60],[102,202,101,201,0,100]),
 ([0,1,2,3,102,103],[62,94,94,62,94,94,60,60,124,124,124,124],[94,94,94,94,62,62,124,124,60,124,124,60,94,94,94,94,62,62,124,124,60,124,124,60],[3,103,2,102,1,0]),
 ([0,100,101,102,200,201],[62,62,62,94,94,60,94,60,124,124,60,124],[94,62,94,94,62,124,62,124,124,60,60,60,94,62,94,94,62,124,62,124,124,60,60,60],[102,101,201,0,100,200]),
 ([0,1,2,3,101,102],[62,94,62,94,94,60,94,60,124,124,124,124],[94,94,94,94,62,124,62,124,124,60,124,60,94,94,94,94,62,124,62,124,124,60,124,60],[3,2,102,1,101,0]),
 ([0,1,2,3,100,101],[62,62,94,94,60,94,94,60,124,124,124,124],[94,94,94,94,62,124,124,62,124,124,60,60,94,94,94,94,62,124,124,62,124,124,60,60],[3,2,1,101,0,100]),
 ([0,1,2,99,100,199],[62,124,62,62,94,60,94,60,94,94,60,124,124,124],[94,94,94,62,124,124,62,124,62,124,60,60,94,60,94,94,94,62,124,124,62,124,62,124,60,60,94,60],[99,199,2,1,0,100]),
 ([0,1,100,199,200,299],[62,62,124,62,62,94,60,94,60,60,94,60,124,124],[94,94,62,124,62,62,124,62,124,60,60,94,60,60,94,94,62,124,62,62,124,62,124,60,60,94,60,60],[199,299,1,0,100,200]),
 ([0,100,200,299,300,399],[62,62,62,124,62,62,94,60,94,60,60,60,60,124],[94,62,62,62,62,124,62,124,60,60,94,60,60,60,94,62,62,62,62,124,62,124,60,60,94,60,60,60],[299,399,0,100,200,300]),
 ([0,1,101,200,201,300],[62,94,62,124,62,62,94,60,94,60,60,60,124,124],[94,94,62,62,62,124,62,124,60,60,94,60,124,60,94,94,62,62,62,124,62,124,60,60,94,60,124,60],[200,300,1,101,201,0])]
theorem pics6d_ok : pics6d.all Pic.ok = true := by decide +kernel
noncomputable def pics6e : List Pic := [([0,100,101,199,200,299],[62,62,124,62,62,94,60,94,60,94,60,124,60,124],[94,62,94,62,124,62,124,62,124,60,60,94,60,60,94,62,94,62,124,62,124,62,124,60,60,94,60,60],[199,299,101,0,100,200]),
 ([0,100,101,200,201,300],[62,62,62,62,94,60,94,60,60,124,60,124],[94,62,94,62,62,124,62,124,60,60,60,60,94,62,94,62,62,124,62,124,60,60,60,60],[101,201,0,100,200,300]),
 ([0,1,2,101,102,201],[62,94,62,62,94,60,94,60,60,124,124,124],[94,94,94,62,62,124,62,124,60,60,124,60,94,94,94,62,62,124,62,124,60,60,124,60],[2,102,1,101,201,0]),
 ([0,1,2,100,101,200],[62,62,62,94,60,94,60,94,60,124,124,124],[94,94,94,62,124,62,124,62,124,60,60,60,94,94,94,62,124,62,124,62,124,60,60,60],[2,1,101,0,100,200]),
 ([0,1,99,100,199,299],[62,124,62,62,62,94,60,60,94,60,94,60,124,124],[94,94,62,124,62,124,62,62,124,60,60,60,94,60,94,94,62,124,62,124,62,62,124,60,60,60,94,60],[99,199,299,1,0,100]),
 ([0,100,199,200,299,399],[62,62,124,62,62,62,94,60,60,94,60,60,60,124],[94,62,62,62,124,62,62,124,60,60,60,94,60,60,94,62,62,62,124,62,62,124,60,60,60,94,60,60],[199,299,399,0,100,200]),
 ([0,1,100,101,200,300],[62,62,62,62,94,60,60,94,60,60,124,124],[94,94,62,62,124,62,62,124,60,60,60,60,94,94,62,62,124,62,62,124,60,60,60,60],[1,101,0,100,200,300]),
 ([0,99,100,199,299,399],[62,124,62,62,62,62,94,60,60,60,94,60,60,124],[94,62,62,124,62,62,62,124,60,60,60,60,94,60,94,62,62,124,62,62,62,124,60,60,60,60,94,60],[99,199,299,399,0,100]),
 ([0,99,100,199,299,300],[62,124,62,62,62,94,94,60,124,60,94,60,60,124],[94,62,62,124,62,94,62,124,124,60,60,60,94,60,94,62,62,124,62,94,62,124,124,60,60,60,94,60],[99,199,299,300,0,100]),
 ([0,99,100,199,298,299],[62,124,62,62,124,62,94,94,60,60,94,60,60,124],[94,62,62,124,62,62,124,124,60,94,60,60,94,60,94,62,62,124,62,62,124,124,60,94,60,60,94,60],[99,199,299,298,0,100]),
 ([0,1,99,100,198,199],[62,124,62,124,62,94,94,60,94,60,94,60,124,124],[94,94,62,124,62,124,62,124,124,60,94,60,94,60,94,94,62,124,62,124,62,124,124,60,94,60,94,60],[99,199,198,1,0,100]),
 ([0,100,199,200,298,299],[62,62,124,62,124,62,94,94,60,94,60,60,60,124],[94,62,62,62,124,62,124,124,60,94,60,94,60,60,94,62,62,62,124,62,124,124,60,94,60,94,60,60],[199,299,298,0,100,200]),
 ([0,1,100,101,199,200],[62,62,124,62,94,94,60,94,60,60,124,124],[94,94,62,62,124,62,124,124,60,94,60,60,94,94,62,62,124,62,124,124,60,94,60,60],[199,1,101,0,100,200]),
 ([0,99,100,198,199,298],[62,124,62,124,62,62,94,60,94,60,94,60,60,124],[94,62,62,124,62,124,62,124,60,60,94,60,94,60,94,62,62,124,62,124,62,124,60,60,94,60,94,60],[99,199,198,298,0,100]),
 ([0,1,2,98,99,100],[62,124,124,62,94,94,94,60,94,94,60,124,124,124],[94,94,94,62,124,124,62,124,124,124,60,94,94,60,94,94,94,62,124,124,62,124,124,124,60,94,94,60],[99,98,2,1,0,100]),
 ([0,99,100,197,198,199],[62,124,62,124,124,62,94,94,94,60,94,60,60,124],[94,62,62,124,62,124,124,124,60,94,94,60,94,60,94,62,62,124,62,124,124,124,60,94,94,60,94,60],[99,199,198,197,0,100]),
 ([0,1,100,198,199,200],[62,62,124,124,62,94,94,94,60,60,94,60,124,124],[94,94,62,124,62,62,124,124,124,60,94,94,60,60,94,94,62,124,62,62,124,124,124,60,94,94,60,60],[199,198,1,0,100,200]),
 ([0,100,200,298,299,300],[62,62,62,124,124,62,94,94,94,60,60,60,60,124],[94,62,62,62,62,124,124,124,60,94,94,60,60,60,94,62,62,62,62,124,124,124,60,94,94,60,60,60],[299,298,0,100,200,300]),
 ([0,1,101,199,200,201],[62,94,62,124,124,62,94,94,94,60,60,60,124,124],[94,94,62,62,62,124,124,124,60,94,94,60,124,60,94,94,62,62,62,124,124,124,60,94,94,60,124,60],[200,199,1,101,201,0]),
 ([0,100,101,198,199,200],[62,62,124,124,62,94,94,94,60,94,60,124,60,124],[94,62,94,62,124,62,124,124,124,60,94,94,60,60,94,62,94,62,124,62,124,124,124,60,94,94,60,60],[199,198,101,0,100,200]),
 ([0,1,98,99,100,198],[62,124,124,62,62,94,60,94,94,60,94,60,124,124],[94,94,62,124,62,124,124,62,124,60,60,94,94,60,94,94,62,124,62,124,124,62,124,60,60,94,94,60],[99,98,198,1,0,100]),
 ([0,100,198,199,200,298],[62,62,124,124,62,62,94,60,94,94,60,60,60,124],[94,62,62,62,124,124,62,124,60,60,94,94,60,60,94,62,62,62,124,124,62,124,60,60,94,94,60,60],[199,198,298,0,100,200]),
 ([0,98,99,100,198,298],[62,124,124,62,62,62,94,60,60,94,94,60,60,124],[94,62,62,124,124,62,62,124,60,60,60,94,94,60,94,62,62,124,124,62,62,124,60,60,60,94,94,60],[99,98,198,298,0,100]),
 ([0,98,99,100,197,198],[62,124,124,62,124,62,94,94,60,94,94,60,60,124],[94,62,62,124,124,62,124,124,60,94,60,94,94,60,94,62,62,124,124,62,124,124,60,94,60,94,94,60],[99,98,198,197,0,100])]
theorem pics6e_ok : pics6e.all Pic.ok = true := by decide +kernel
noncomputable def pics6f : List Pic := [([0,100,102,200,201,202],[62,62,62,94,94,94,60,60,124,62,124,60,60,124],[94,62,62,94,60,94,62,62,124,124,124,60,60,60,94,62,62,94,60,94,62,62,124,124,124,60,60,60],[102,202,201,0,100,200]),
 ([0,1,3,101,102,103],[62,94,62,94,94,94,60,60,124,62,124,60,124,124],[94,94,62,94,60,94,62,62,124,124,124,60,124,60,94,94,62,94,60,94,62,62,124,124,124,60,124,60],[3,103,102,1,101,0]),
 ([0,2,3,100,101,102],[62,62,94,94,94,60,94,60,124,124,62,124,60,124],[94,62,94,60,94,94,62,124,62,124,124,124,60,60,94,62,94,60,94,94,62,124,62,124,124,124,60,60],[3,2,102,101,0,100]),
 ([0,98,100,198,199,200],[62,62,124,60,124,62,62,94,94,94,60,60,60,124],[94,62,62,62,124,124,124,60,60,94,62,94,60,60,94,62,62,62,124,124,124,60,60,94,62,94,60,60],[199,98,198,0,100,200]),
 ([0,2,100,101,102,200],[62,62,62,94,60,94,94,60,60,124,62,124,60,124],[94,62,94,60,94,62,62,124,124,62,124,60,60,60,94,62,94,60,94,62,62,124,124,62,124,60,60,60],[2,102,101,0,100,200]),
 ([0,1,97,98,99,100],[62,124,124,124,62,94,94,94,94,60,94,60,124,124],[94,94,62,124,62,124,124,124,124,60,94,94,94,60,94,94,62,124,62,124,124,124,124,60,94,94,94,60],[99,98,97,1,0,100]),
 ([0,100,197,198,199,200],[62,62,124,124,124,62,94,94,94,94,60,60,60,124],[94,62,62,62,124,124,124,124,60,94,94,94,60,60,94,62,62,62,124,124,124,124,60,94,94,94,60,60],[199,198,197,0,100,200]),
 ([0,97,98,99,100,197],[62,124,124,124,62,62,94,60,94,94,94,60,60,124],[94,62,62,124,124,124,62,124,60,60,94,94,94,60,94,62,62,124,124,124,62,124,60,60,94,94,94,60],[99,98,97,197,0,100]),
 ([0,3,100,101,102,103],[62,62,94,94,94,94,60,60,124,62,124,124,60,124],[94,62,94,94,60,94,62,62,124,124,124,124,60,60,94,62,94,94,60,94,62,62,124,124,124,124,60,60],[3,103,102,101,0,100]),
 ([0,96,97,98,99,100],[62,124,124,124,124,62,94,94,94,94,94,60,60,124],[94,62,62,124,124,124,124,124,60,94,94,94,94,60,94,62,62,124,124,124,124,124,60,94,94,94,94,60],[99,98,97,96,0,100]),
 ([0,97,98,99,100,198],[62,124,124,124,62,94,62,94,60,94,94,60,60,124],[94,62,62,124,124,62,124,60,124,60,94,94,94,60,94,62,62,124,124,62,124,60,124,60,94,94,94,60],[99,98,198,97,0,100]),
 ([0,1,98,99,100,199],[62,124,124,62,94,62,94,60,94,60,94,60,124,124],[94,94,62,124,62,124,62,124,60,124,60,94,94,60,94,94,62,124,62,124,62,124,60,124,60,94,94,60],[99,199,98,1,0,100]),
 ([0,100,198,199,200,299],[62,62,124,124,62,94,62,94,60,94,60,60,60,124],[94,62,62,62,124,62,124,60,124,60,94,94,60,60,94,62,62,62,124,62,124,60,124,60,94,94,60,60],[199,299,198,0,100,200]),
 ([0,98,99,100,198,199],[62,124,124,62,62,94,94,60,94,60,60,124],[94,62,62,124,62,124,124,60,60,94,94,60,94,62,62,124,62,124,124,60,60,94,94,60],[99,199,98,198,0,100]),
 ([0,2,100,101,102,201],[62,62,94,62,94,60,94,60,60,124,62,124,60,124],[94,62,94,60,94,62,62,124,62,124,60,124,60,60,94,62,94,60,94,62,62,124,62,124,60,124,60,60],[2,102,101,201,0,100]),
 ([0,97,98,99,100,199],[62,124,124,124,62,94,94,62,94,60,94,60,60,124],[94,62,62,124,62,124,60,124,124,60,94,94,94,60,94,62,62,124,62,124,60,124,124,60,94,94,94,60],[99,199,98,97,0,100]),
 ([0,98,99,100,199,299],[62,124,124,62,94,62,62,94,60,60,94,60,60,124],[94,62,62,124,62,62,124,60,60,124,60,94,94,60,94,62,62,124,62,62,124,60,60,124,60,94,94,60],[99,199,299,98,0,100]),
 ([0,1,2,99,100,200],[62,124,62,94,62,94,60,60,94,94,60,124,124,124],[94,94,94,62,124,124,62,62,124,60,124,60,94,60,94,94,94,62,124,124,62,62,124,60,124,60,94,60],[99,2,1,0,100,200]),
 ([0,99,100,198,199,299],[62,124,62,124,62,94,62,94,60,60,94,60,60,124],[94,62,62,124,62,62,124,60,124,60,94,60,94,60,94,62,62,124,62,62,124,60,124,60,94,60,94,60],[99,199,299,198,0,100]),
 ([0,1,100,199,200,300],[62,62,124,62,94,62,94,60,60,60,94,60,124,124],[94,94,62,124,62,62,62,124,60,124,60,94,60,60,94,94,62,124,62,62,62,124,60,124,60,94,60,60],[199,1,0,100,200,300]),
 ([0,100,200,299,300,400],[62,62,62,124,62,94,62,94,60,60,60,60,60,124],[94,62,62,62,62,62,124,60,124,60,94,60,60,60,94,62,62,62,62,62,124,60,124,60,94,60,60,60],[299,0,100,200,300,400]),
 ([0,1,101,200,201,301],[62,94,62,124,62,94,62,94,60,60,60,60,124,124],[94,94,62,62,62,62,124,60,124,60,94,60,124,60,94,94,62,62,62,62,124,60,124,60,94,60,124,60],[200,1,101,201,301,0]),
 ([0,100,101,199,200,300],[62,62,124,62,94,62,94,60,60,94,60,124,60,124],[94,62,94,62,124,62,62,124,60,124,60,94,60,60,94,62,94,62,124,62,62,124,60,124,60,94,60,60],[199,101,0,100,200,300]),
 ([0,100,101,200,201,301],[62,62,62,94,62,94,60,60,60,124,60,124],[94,62,94,62,62,62,124,60,124,60,60,60,94,62,94,62,62,62,124,60,124,60,60,60],[101,201,301,0,100,200])]
theorem pics6f_ok : pics6f.all Pic.ok = true := by decide +kernel
noncomputable def pics6g : List Pic := [([0,1,2,101,102,202],[62,94,62,94,62,94,60,60,60,124,124,124],[94,94,94,62,62,62,124,60,124,60,124,60,94,94,94,62,62,62,124,60,124,60,124,60],[2,102,202,1,101,0]),
 ([0,1,2,100,101,201],[62,62,94,62,94,60,60,94,60,124,124,124],[94,94,94,62,124,62,62,124,60,124,60,60,94,94,94,62,124,62,62,124,60,124,60,60],[2,1,101,201,0,100]),
 ([0,1,99,100,199,200],[62,124,62,62,94,94,60,60,94,60,124,124],[94,94,62,124,62,62,124,124,60,60,94,60,94,94,62,124,62,62,124,124,60,60,94,60],[99,199,1,0,100,200]),
 ([0,100,199,200,299,300],[62,62,124,62,62,94,94,60,60,60,60,124],[94,62,62,62,62,124,124,60,60,94,60,60,94,62,62,62,62,124,124,60,60,94,60,60],[199,299,0,100,200,300]),
 ([0,1,100,101,200,201],[62,62,62,94,94,60,60,60,124,124],[94,94,62,62,62,124,124,60,60,60,94,94,62,62,62,124,124,60,60,60],[1,101,201,0,100,200]),
 ([0,99,100,199,200,299],[62,124,62,62,62,94,60,94,60,60,60,124],[94,62,62,62,124,62,124,60,60,60,94,60,94,62,62,62,124,62,124,60,60,60,94,60],[99,199,299,0,100,200]),
 ([0,1,98,99,100,200],[62,124,124,62,94,94,62,94,60,60,94,60,124,124],[94,94,62,124,62,62,124,60,124,124,60,94,94,60,94,94,62,124,62,62,124,60,124,124,60,94,94,60],[99,98,1,0,100,200]),
 ([0,100,198,199,200,300],[62,62,124,124,62,94,94,62,94,60,60,60,60,124],[94,62,62,62,62,124,60,124,124,60,94,94,60,60,94,62,62,62,62,124,60,124,124,60,94,94,60,60],[199,198,0,100,200,300]),
 ([0,98,99,100,198,200],[62,124,124,62,62,94,60,94,62,94,60,60,60,124],[94,62,62,62,124,60,124,62,124,60,60,94,94,60,94,62,62,62,124,60,124,62,124,60,60,94,94,60],[99,98,198,0,100,200]),
 ([0,2,100,101,102,202],[62,62,94,94,62,94,60,60,60,124,62,124,60,124],[94,62,94,60,94,62,62,62,124,60,124,124,60,60,94,62,94,60,94,62,62,62,124,60,124,124,60,60],[2,102,202,101,0,100]),
 ([0,97,98,99,100,200],[62,124,124,124,62,94,94,94,62,94,60,60,60,124],[94,62,62,62,124,60,124,124,124,60,94,94,94,60,94,62,62,62,124,60,124,124,124,60,94,94,94,60],[99,98,97,0,100,200]),
 ([0,98,99,100,199,200],[62,124,124,62,94,62,94,94,60,60,60,124],[94,62,62,62,124,124,60,124,60,94,94,60,94,62,62,62,124,124,60,124,60,94,94,60],[99,199,98,0,100,200]),
 ([0,1,99,100,200,300],[62,124,62,94,62,62,94,60,60,60,94,60,124,124],[94,94,62,124,62,62,62,124,60,60,124,60,94,60,94,94,62,124,62,62,62,124,60,60,124,60,94,60],[99,1,0,100,200,300]),
 ([0,100,199,200,300,400],[62,62,124,62,94,62,62,94,60,60,60,60,60,124],[94,62,62,62,62,62,124,60,60,124,60,94,60,60,94,62,62,62,62,62,124,60,60,124,60,94,60,60],[199,0,100,200,300,400]),
 ([0,1,100,101,201,301],[62,62,94,62,62,94,60,60,60,60,124,124],[94,94,62,62,62,62,124,60,60,124,60,60,94,94,62,62,62,62,124,60,60,124,60,60],[1,101,201,301,0,100]),
 ([0,99,100,199,200,300],[62,124,62,62,94,62,94,60,60,60,60,124],[94,62,62,62,62,124,60,124,60,60,94,60,94,62,62,62,62,124,60,124,60,60,94,60],[99,199,0,100,200,300]),
 ([0,98,99,100,200,300],[62,124,124,62,94,94,62,62,94,60,60,60,60,124],[94,62,62,62,62,124,60,60,124,124,60,94,94,60,94,62,62,62,62,124,60,60,124,124,60,94,94,60],[99,98,0,100,200,300]),
 ([0,99,100,200,300,400],[62,124,62,94,62,62,62,94,60,60,60,60,60,124],[94,62,62,62,62,62,124,60,60,60,124,60,94,60,94,62,62,62,62,62,124,60,60,60,124,60,94,60],[99,0,100,200,300,400]),
 ([0,99,100,200,300,301],[62,124,62,94,62,62,94,94,60,124,60,60,60,124],[94,62,62,62,94,62,124,124,60,60,124,60,94,60,94,62,62,62,94,62,124,124,60,60,124,60,94,60],[99,301,0,100,200,300]),
 ([0,99,100,200,299,300],[62,124,62,94,62,124,62,94,94,60,60,60,60,124],[94,62,62,62,62,124,124,60,94,60,124,60,94,60,94,62,62,62,62,124,124,60,94,60,124,60,94,60],[99,299,0,100,200,300]),
 ([0,1,99,100,200,201],[62,124,62,94,62,94,94,60,124,60,94,60,124,124],[94,94,62,124,62,94,62,124,124,60,124,60,94,60,94,94,62,124,62,94,62,124,124,60,124,60,94,60],[99,201,1,0,100,200]),
 ([0,100,199,200,300,301],[62,62,124,62,94,62,94,94,60,124,60,60,60,124],[94,62,62,62,94,62,124,124,60,124,60,94,60,60,94,62,62,62,94,62,124,124,60,124,60,94,60,60],[199,301,0,100,200,300]),
 ([0,1,100,101,201,202],[62,62,94,62,94,94,60,124,60,60,124,124],[94,94,62,62,94,62,124,124,60,124,60,60,94,94,62,62,94,62,124,124,60,124,60,60],[202,1,101,201,0,100]),
 ([0,98,99,100,200,201],[62,124,124,62,94,94,62,94,94,60,124,60,60,124],[94,62,62,94,62,124,124,60,124,124,60,94,94,60,94,62,62,94,62,124,124,60,124,124,60,94,94,60],[99,98,201,0,100,200])]
theorem pics6g_ok : pics6g.all Pic.ok = true := by decide +kernel
noncomputable def pics6h : List Pic := [([0,99,100,200,201,300],[62,124,62,94,62,62,94,60,94,60,124,60,60,124],[94,62,62,94,62,124,62,124,60,60,124,60,94,60,94,62,62,94,62,124,62,124,60,60,124,60,94,60],[99,201,0,100,200,300]),
 ([0,99,100,200,201,301],[62,124,62,94,62,94,62,94,60,60,124,60,60,124],[94,62,62,94,62,62,124,60,124,60,124,60,94,60,94,62,62,94,62,62,124,60,124,60,124,60,94,60],[99,201,301,0,100,200]),
 ([0,99,100,200,201,202],[62,124,62,94,62,94,94,94,60,124,124,60,60,124],[94,62,62,94,94,62,124,124,124,60,124,60,94,60,94,62,62,94,94,62,124,124,124,60,124,60,94,60],[99,202,201,0,100,200]),
 ([0,1,2,99,100,101],[62,124,62,94,94,94,60,94,60,124,124,124],[94,94,94,62,124,62,124,124,124,60,94,60,94,94,94,62,124,62,124,124,124,60,94,60],[99,2,1,101,0,100]),
 ([0,99,100,198,199,200],[62,124,62,124,62,94,94,94,60,60,60,124],[94,62,62,62,124,124,124,60,94,60,94,60,94,62,62,62,124,124,124,60,94,60,94,60],[99,199,198,0,100,200]),
 ([0,1,100,199,200,201],[62,62,124,62,94,94,94,60,124,60,94,60,124,124],[94,94,62,124,62,94,62,124,124,124,60,94,60,60,94,94,62,124,62,94,62,124,124,124,60,94,60,60],[199,201,1,0,100,200]),
 ([0,100,200,299,300,301],[62,62,62,124,62,94,94,94,60,124,60,60,60,124],[94,62,62,62,94,62,124,124,124,60,94,60,60,60,94,62,62,62,94,62,124,124,124,60,94,60,60,60],[299,301,0,100,200,300]),
 ([0,1,101,200,201,202],[62,94,62,124,62,94,94,94,60,124,60,60,124,124],[94,94,62,62,94,62,124,124,124,60,94,60,124,60,94,94,62,62,94,62,124,124,124,60,94,60,124,60],[200,202,1,101,201,0]),
 ([0,100,101,199,200,201],[62,62,124,62,94,94,94,60,60,124,60,124],[94,62,94,62,62,124,124,124,60,94,60,60,94,62,94,62,62,124,124,124,60,94,60,60],[199,101,201,0,100,200]),
 ([0,100,101,200,201,202],[62,62,62,94,94,94,60,124,60,124,60,124],[94,62,94,62,94,62,124,124,124,60,60,60,94,62,94,62,94,62,124,124,124,60,60,60],[202,101,201,0,100,200]),
 ([0,1,2,101,102,103],[62,94,62,94,94,94,60,124,60,124,124,124],[94,94,94,62,94,62,124,124,124,60,124,60,94,94,94,62,94,62,124,124,124,60,124,60],[103,2,102,1,101,0]),
 ([0,1,2,100,101,102],[62,62,94,94,94,60,60,124,124,124],[94,94,94,62,62,124,124,124,60,60,94,94,94,62,62,124,124,124,60,60],[2,102,1,101,0,100]),
 ([0,99,100,199,200,201],[62,124,62,62,94,94,94,60,124,60,60,124],[94,62,62,94,62,124,124,124,60,60,94,60,94,62,62,94,62,124,124,124,60,60,94,60],[99,199,201,0,100,200]),
 ([0,1,99,100,101,199],[62,124,62,62,94,60,94,94,60,60,124,124],[94,94,62,62,124,124,62,124,60,60,94,60,94,94,62,62,124,124,62,124,60,60,94,60],[99,199,1,101,0,100]),
 ([0,100,199,200,201,299],[62,62,124,62,62,94,60,94,94,60,124,60,60,124],[94,62,62,94,62,124,124,62,124,60,60,94,60,60,94,62,62,94,62,124,124,62,124,60,60,94,60,60],[199,299,201,0,100,200]),
 ([0,1,100,101,102,200],[62,62,62,94,60,94,94,60,124,60,124,124],[94,94,62,94,62,124,124,62,124,60,60,60,94,94,62,94,62,124,124,62,124,60,60,60],[102,1,101,0,100,200]),
 ([0,99,100,101,199,299],[62,124,62,62,62,94,60,60,94,94,60,124,60,124],[94,62,94,62,124,124,62,62,124,60,60,60,94,60,94,62,94,62,124,124,62,62,124,60,60,60,94,60],[99,199,299,101,0,100]),
 ([0,99,100,101,198,199],[62,124,62,124,62,94,94,60,94,94,60,124,60,124],[94,62,94,62,124,124,62,124,124,60,94,60,94,60,94,62,94,62,124,124,62,124,124,60,94,60,94,60],[99,199,198,101,0,100]),
 ([0,1,98,99,100,101],[62,124,124,62,94,94,94,94,60,60,124,124],[94,94,62,62,124,124,124,124,60,94,94,60,94,94,62,62,124,124,124,124,60,94,94,60],[99,98,1,101,0,100]),
 ([0,100,198,199,200,201],[62,62,124,124,62,94,94,94,94,60,124,60,60,124],[94,62,62,94,62,124,124,124,124,60,94,94,60,60,94,62,62,94,62,124,124,124,124,60,94,94,60,60],[199,198,201,0,100,200]),
 ([0,98,99,100,101,198],[62,124,124,62,62,94,60,94,94,94,60,124,60,124],[94,62,94,62,124,124,124,62,124,60,60,94,94,60,94,62,94,62,124,124,124,62,124,60,60,94,94,60],[99,98,198,101,0,100]),
 ([0,2,100,101,102,103],[62,62,94,94,94,94,60,124,60,124,62,124,60,124],[94,62,94,60,94,62,94,62,124,124,124,124,60,60,94,62,94,60,94,62,94,62,124,124,124,124,60,60],[103,2,102,101,0,100]),
 ([0,97,98,99,100,101],[62,124,124,124,62,94,94,94,94,94,60,124,60,124],[94,62,94,62,124,124,124,124,124,60,94,94,94,60,94,62,94,62,124,124,124,124,124,60,94,94,94,60],[99,98,97,101,0,100]),
 ([0,98,99,100,101,199],[62,124,124,62,94,62,94,60,94,94,60,124,60,124],[94,62,94,62,124,124,62,124,60,124,60,94,94,60,94,62,94,62,124,124,62,124,60,124,60,94,94,60],[99,199,98,101,0,100])]
theorem pics6h_ok : pics6h.all Pic.ok = true := by decide +kernel
noncomputable def pics6i : List Pic := [([0,1,99,100,101,200],[62,124,62,94,62,94,60,94,60,60,124,124],[94,94,62,62,124,62,124,60,124,60,94,60,94,94,62,62,124,62,124,60,124,60,94,60],[99,1,101,0,100,200]),
 ([0,100,199,200,201,300],[62,62,124,62,94,62,94,60,94,60,124,60,60,124],[94,62,62,94,62,124,62,124,60,124,60,94,60,60,94,62,62,94,62,124,62,124,60,124,60,94,60,60],[199,201,0,100,200,300]),
 ([0,1,100,101,102,201],[62,62,94,62,94,60,94,60,124,60,124,124],[94,94,62,94,62,124,62,124,60,124,60,60,94,94,62,94,62,124,62,124,60,124,60,60],[102,1,101,201,0,100]),
 ([0,99,100,101,199,200],[62,124,62,62,94,94,60,94,60,124,60,124],[94,62,94,62,124,62,124,124,60,60,94,60,94,62,94,62,124,62,124,124,60,60,94,60],[99,199,101,0,100,200]),
 ([0,98,99,100,101,200],[62,124,124,62,94,94,62,94,60,94,60,124,60,124],[94,62,94,62,124,62,124,60,124,124,60,94,94,60,94,62,94,62,124,62,124,60,124,124,60,94,94,60],[99,98,101,0,100,200]),
 ([0,99,100,101,200,300],[62,124,62,94,62,62,94,60,60,94,60,124,60,124],[94,62,94,62,124,62,62,124,60,60,124,60,94,60,94,62,94,62,124,62,62,124,60,60,124,60,94,60],[99,101,0,100,200,300]),
 ([0,1,99,100,101,201],[62,124,62,94,94,62,94,60,60,60,124,124],[94,94,62,62,62,124,60,124,124,60,94,60,94,94,62,62,62,124,60,124,124,60,94,60],[99,1,101,201,0,100]),
 ([0,100,199,200,201,301],[62,62,124,62,94,94,62,94,60,60,124,60,60,124],[94,62,62,94,62,62,124,60,124,124,60,94,60,60,94,62,62,94,62,62,124,60,124,124,60,94,60,60],[199,201,301,0,100,200]),
 ([0,1,100,101,102,202],[62,62,94,94,62,94,60,60,124,60,124,124],[94,94,62,94,62,62,124,60,124,124,60,60,94,94,62,94,62,62,124,60,124,124,60,60],[102,202,1,101,0,100]),
 ([0,99,100,101,199,201],[62,124,62,62,94,60,94,62,94,60,60,124,60,124],[94,62,94,62,62,124,60,124,62,124,60,60,94,60,94,62,94,62,62,124,60,124,62,124,60,60,94,60],[99,199,101,201,0,100]),
 ([0,98,99,100,101,201],[62,124,124,62,94,94,94,62,94,60,60,124,60,124],[94,62,94,62,62,124,60,124,124,124,60,94,94,60,94,62,94,62,62,124,60,124,124,124,60,94,94,60],[99,98,101,201,0,100]),
 ([0,99,100,101,200,201],[62,124,62,94,62,94,94,60,60,124,60,124],[94,62,94,62,62,124,124,60,124,60,94,60,94,62,94,62,62,124,124,60,124,60,94,60],[99,101,201,0,100,200]),
 ([0,99,100,101,201,301],[62,124,62,94,94,62,62,94,60,60,60,124,60,124],[94,62,94,62,62,62,124,60,60,124,124,60,94,60,94,62,94,62,62,62,124,60,60,124,124,60,94,60],[99,101,201,301,0,100]),
 ([0,99,100,101,201,202],[62,124,62,94,94,62,94,94,60,124,60,124,60,124],[94,62,94,62,94,62,124,124,60,124,124,60,94,60,94,62,94,62,94,62,124,124,60,124,124,60,94,60],[99,202,101,201,0,100]),
 ([0,1,99,100,101,102],[62,124,62,94,94,94,94,60,124,60,124,124],[94,94,62,94,62,124,124,124,124,60,94,60,94,94,62,94,62,124,124,124,124,60,94,60],[99,102,1,101,0,100]),
 ([0,100,199,200,201,202],[62,62,124,62,94,94,94,94,60,124,124,60,60,124],[94,62,62,94,94,62,124,124,124,124,60,94,60,60,94,62,62,94,94,62,124,124,124,124,60,94,60,60],[199,202,201,0,100,200]),
 ([0,1,100,101,102,103],[62,62,94,94,94,94,60,124,124,60,124,124],[94,94,62,94,94,62,124,124,124,124,60,60,94,94,62,94,94,62,124,124,124,124,60,60],[103,102,1,101,0,100]),
 ([0,99,100,101,102,199],[62,124,62,62,94,60,94,94,94,60,124,124,60,124],[94,62,94,94,62,124,124,124,62,124,60,60,94,60,94,62,94,94,62,124,124,124,62,124,60,60,94,60],[99,199,102,101,0,100]),
 ([0,98,99,100,101,102],[62,124,124,62,94,94,94,94,94,60,124,124,60,124],[94,62,94,94,62,124,124,124,124,124,60,94,94,60,94,62,94,94,62,124,124,124,124,124,60,94,94,60],[99,98,102,101,0,100]),
 ([0,99,100,101,102,200],[62,124,62,94,62,94,60,94,94,60,124,124,60,124],[94,62,94,94,62,124,124,62,124,60,124,60,94,60,94,62,94,94,62,124,124,62,124,60,124,60,94,60],[99,102,101,0,100,200]),
 ([0,99,100,101,102,201],[62,124,62,94,94,62,94,60,94,60,124,124,60,124],[94,62,94,94,62,124,62,124,60,124,124,60,94,60,94,62,94,94,62,124,62,124,60,124,124,60,94,60],[99,102,101,201,0,100]),
 ([0,99,100,101,102,202],[62,124,62,94,94,94,62,94,60,60,124,124,60,124],[94,62,94,94,62,62,124,60,124,124,124,60,94,60,94,62,94,94,62,62,124,60,124,124,124,60,94,60],[99,102,202,101,0,100]),
 ([0,99,100,101,102,103],[62,124,62,94,94,94,94,94,60,124,124,124,60,124],[94,62,94,94,94,62,124,124,124,124,124,60,94,60,94,62,94,94,94,62,124,124,124,124,124,60,94,60],[99,103,102,101,0,100]),
 ([0,2,99,100,101,102],[62,124,62,94,94,94,94,60,60,124,62,124,60,124],[94,62,94,60,94,62,62,124,124,124,124,60,94,60,94,62,94,60,94,62,62,124,124,124,124,60,94,60],[99,2,102,101,0,100])]
theorem pics6i_ok : pics6i.all Pic.ok = true := by decide +kernel
noncomputable def pics6 : List Pic := pics6a ++ (pics6b ++ (pics6c ++ (pics6d ++ (pics6e ++ (pics6f ++ (pics6g ++ (pics6h ++ (pics6i))))))))
theorem pics6_ok : pics6.all Pic.ok = true := by
  simp only [pics6, List.all_append, pics6a_ok, pics6b_ok, pics6c_ok, pics6d_ok, pics6e_ok, pics6f_ok, pics6g_ok, pics6h_ok, pics6i_ok, Bool.and_self]
end
section
open _root_.PySem _root_.PySem.W _root_.PySem.Calls _root_.PyProof.Rows
set_option linter.unusedVariables false
set_option maxRecDepth 100000
theorem goodB_of {C : List Int} {t mi : List Nat} {r : List Int} (h : goodL C t mi r = true) : goodB C = true := by
  unfold goodL at h
  simp only [Bool.and_eq_true, decide_eq_true_eq] at h
  obtain ⟨⟨⟨⟨⟨⟨⟨⟨⟨⟨⟨⟨⟨a1, a2⟩, a3⟩, a4⟩, a5⟩, a6⟩, a7⟩, a8⟩, a9⟩, b1⟩, b2⟩, b3⟩, b4⟩, b5⟩ := h
  unfold goodB
  rw [a1]
  dsimp only
  rw [a3]
  dsimp only
  have hp : partedF t = partedG (t ++ t) mi (t.length / 2) ((t ++ t).length : Nat) := by rw [← a2]; rfl
  unfold goodT
  rw [hp]
  simp only [Bool.and_eq_true, decide_eq_true_eq]
  exact ⟨⟨⟨⟨⟨⟨⟨⟨⟨⟨a4, a5⟩, a6⟩, a7⟩, a8⟩, a9⟩, b1⟩, b2⟩, b3⟩, b4⟩, b5⟩
theorem tbl_four : tbl 4 = pics5.map (·.1) := by decide +kernel
theorem tbl_five : tbl 5 = pics6.map (·.1) := by
  show next (tbl 4) = _
  rw [tbl_four]
  decide +kernel
theorem pic_good {pics : List Pic} (h : pics.all Pic.ok = true) {C : List Int} (hC : C ∈ pics.map (·.1)) : goodB C = true := by
  obtain ⟨p, hp, rfl⟩ := List.mem_map.mp hC
  exact goodB_of (List.all_eq_true.mp h p hp)
theorem plain_law (script : List Int) : ∃ m N t r, Good (grown (drawsOf script)) m N t r := by
  obtain ⟨C, hC, R⟩ := grown_rep (drawsOf script)
  refine good_rep R ?_
  have hl : (drawsOf script).length = 4 + script.length % 2 := by unfold drawsOf; simp
  have h2 : script.length % 2 = 0 ∨ script.length % 2 = 1 := by omega
  rw [hl] at hC
  rcases h2 with h | h
  · rw [h, tbl_four] at hC; exact pic_good pics5_ok hC
  · rw [h] at hC
    have hC : C ∈ tbl 5 := hC
    rw [tbl_five] at hC; exact pic_good pics6_ok hC
end
section
open _root_.PySem _root_.PySem.W _root_.PySem.Calls _root_.PyProof.Rows
set_option linter.unusedVariables false
set_option maxRecDepth 100000
theorem lookup_filter {β : Type} (q : Nat → Bool) : ∀ (l : List (Nat × β)) (a : Nat) (o : β), (l.filter fun p => q p.1).lookup a = some o → q a = true ∧ l.lookup a = some o
  | [], a, o, e => by cases e
  | (b, x) :: r, a, o, e => by
    rw [List.filter_cons] at e
    by_cases hb : q b = true
    · rw [if_pos hb, List.lookup_cons] at e
      rw [List.lookup_cons]
      by_cases hab : (a == b) = true
      · rw [hab] at e ⊢
        exact ⟨by rw [eq_of_beq hab]; exact hb, e⟩
      · rw [Bool.eq_false_iff.mpr hab] at e ⊢
        exact lookup_filter q r a o e
    · rw [if_neg hb] at e
      obtain ⟨h1, h2⟩ := lookup_filter q r a o e
      refine ⟨h1, ?_⟩
      rw [List.lookup_cons]
      have hab : (a == b) = false := by
        rw [beq_eq_false_iff_ne]
        rintro rfl
        exact hb h1
      rw [hab]; exact h2
theorem kk_in {P : Params} {h : Heap} (X : (pre.heap_1 P).In h) : (kk P).In (hideAll h [147, 154]) := fun a o e => by
  obtain ⟨h1, h2⟩ := lookup_filter (fun b => !(b == 147 || b == 154)) (pre.heap_1 P) a o e
  refine hideAll_get _ (X a o h2) fun hm => ?_
  simp only [List.mem_cons, List.not_mem_nil, or_false] at hm
  rcases hm with rfl | rfl <;> simp at h1
noncomputable abbrev lawTabs : List (Addr × Addr) := [(151, 147), (158, 154)]
theorem law_tabs {P : Params} {h : Heap} (X : (pre.heap_1 P).In h) : TabsAt lawTabs h := by
  have g1 : h.get? 147 = some (tabObj #[]) := X _ _ (by with_unfolding_all rfl)
  have g2 : h.get? 154 = some (tabObj #[]) := X _ _ (by with_unfolding_all rfl)
  intro q hq
  simp only [List.mem_cons, List.not_mem_nil, or_false] at hq
  rcases hq with rfl | rfl
  · exact ⟨codeHd_of_K X (by kernel_rfl), g1⟩
  · exact ⟨codeHd_of_K X (by kernel_rfl), g2⟩
theorem oldK_law {h h' : Heap} (hT : TabsAt lawTabs h) (keep : ∀ b o, b ≠ 147 → b ≠ 154 → h.get? b = some o → h'.get? b = some o) (u1 : ∃ ps, h'.get? 147 = some (tabObj ps)) (u2 : ∃ ps, h'.get? 154 = some (tabObj ps)) : OldK h h' := by
  obtain ⟨c1, g1⟩ := hT (151, 147) (.head _)
  obtain ⟨c2, g2⟩ := hT (158, 154) (.tail _ (.head _))
  obtain ⟨p1, e1⟩ := u1
  obtain ⟨p2, e2⟩ := u2
  refine ⟨fun b o e => ?_, fun b o e => ?_⟩
  · by_cases h1 : b = 147
    · subst h1
      rw [g1] at e; cases e
      exact .inr (.inl ⟨(c1.tab g1).isCodeTable, rfl, #[], p1, rfl, by rw [Array.empty_append]; exact e1⟩)
    · by_cases h2 : b = 154
      · subst h2
        rw [g2] at e; cases e
        exact .inr (.inl ⟨(c2.tab g2).isCodeTable, rfl, #[], p2, rfl, by rw [Array.empty_append]; exact e2⟩)
      · exact .inl (keep b o h1 h2 e)
  · by_cases h1 : b = 147
    · subst h1; exact ⟨_, e1⟩
    · by_cases h2 : b = 154
      · subst h2; exact ⟨_, e2⟩
      · exact ⟨o, keep b o h1 h2 e⟩
theorem law_final {prog : Program} {p : Program} {loose : List Str} {mean : ExcName → Option Value} {w : World} {s : Shared} {mg mb : Str → Option Value} (hfile : (prog.main.file : Str) = "/claim/cut.py") (hsup : (prog.main.scope.names.lookup ("super" : Str)).isSome = false)
    (KX : (pre.heap_1 w.params).In s.heap) (T : Top p loose mean mg mb s.heap) (hg : s.gens = #[]) {a : Addr} {vs : List Value} {script : List Int} (hl : s.heap.IsList a vs.toArray) (hi : IntsAre vs script) (hlen : script.length ≤ 63) :
    codeB (model prog w) callerA (.call (.ref 235) ⟨[.ref a], []⟩) (fun res s' => res = .ok (.ret (.bool true)) ∧ OldK s.heap s'.heap ∧ s'.os = s.os ∧ AllBare s'.gens) s := by
  have hT := law_tabs KX
  have T' := ghost_top hT T
  let c : Cx := { prog := prog, w := w, K := kk w.params, h₀ := ghostOf s.heap lawTabs, mg := mg, mb := mb }
  have ok : c.Ok := ⟨kk_in KX, T'.g, T'.b, T'.nolimit, T'.builtins⟩
  have H : HereP c := ⟨⟨ok, rfl⟩, hfile, hsup, bmod_of_top T', hideAll_none _ (.head _), hideAll_none _ (.tail _ (.head _))⟩
  obtain ⟨m, N, t, r, G⟩ := plain_law script
  have hv : VR s.heap s.heap (.lst (intl script)) (.ref a) := ⟨a, vs.toArray, rfl, hl, by simpa using are_intl hi⟩
  refine codeB.mono (law_walk (c := c) H hlen hv rfl (hT (151, 147) (.head _)).2 (hT (158, 154) (.tail _ (.head _))).2 (.of_eq hg) G) fun res s' h => ?_
  obtain ⟨h1, h2, ⟨u1, e1, _⟩, ⟨u2, e2, _⟩, h5, h6⟩ := h
  exact ⟨h1, oldK_law hT h2 ⟨u1, e1⟩ ⟨u2, e2⟩, h6, h5⟩
end
section
open _root_.PySem _root_.PySem.W _root_.PySem.Calls _root_.PyProof.Rows
set_option linter.unusedVariables false
set_option maxRecDepth 100000
/-- names that keep the twins of the top's own constants off: the library goes on without them -/
theorem law_holds.tw10024239376800412576 : True := trivial
theorem law_holds.tw10028117763298573888 : True := trivial
theorem law_holds.tw1010274779812955710 : True := trivial
theorem law_holds.tw10242277825702978295 : True := trivial
theorem law_holds.tw10264638600885302300 : True := trivial
theorem law_holds.tw10319883811594843652 : True := trivial
theorem law_holds.tw10368410895845634921 : True := trivial
theorem law_holds.tw10371022188087798493 : True := trivial
theorem law_holds.tw10486713781251687710 : True := trivial
theorem law_holds.tw10566571302883470556 : True := trivial
theorem law_holds.tw10666784280354678857 : True := trivial
theorem law_holds.tw10817052189556005596 : True := trivial
theorem law_holds.tw10958410103948607464 : True := trivial
theorem law_holds.tw11097350217990362986 : True := trivial
theorem law_holds.tw11098625913536864229 : True := trivial
theorem law_holds.tw11182679623053108816 : True := trivial
theorem law_holds.tw11347954631545130290 : True := trivial
theorem law_holds.tw11484002064277903863 : True := trivial
theorem law_holds.tw11539556534233449701 : True := trivial
theorem law_holds.tw11609493526922420660 : True := trivial
theorem law_holds.tw11625900857008200698 : True := trivial
theorem law_holds.tw11633083819707477107 : True := trivial
theorem law_holds.tw11764581739189218997 : True := trivial
theorem law_holds.tw11781800970755023335 : True := trivial
theorem law_holds.tw11846676642670509255 : True := trivial
theorem law_holds.tw12115171985352901274 : True := trivial
theorem law_holds.tw12116493165278983582 : True := trivial
theorem law_holds.tw12134408205421670959 : True := trivial
theorem law_holds.tw12223724995276690173 : True := trivial
theorem law_holds.tw123295346585929383 : True := trivial
theorem law_holds.tw12342728606916771844 : True := trivial
theorem law_holds.tw12455363061293523525 : True := trivial
theorem law_holds.tw12459966957829302596 : True := trivial
theorem law_holds.tw12626328134170644701 : True := trivial
theorem law_holds.tw12780804625047726367 : True := trivial
theorem law_holds.tw12831907817818079685 : True := trivial
theorem law_holds.tw12835091436910803158 : True := trivial
theorem law_holds.tw13028658284911697911 : True := trivial
theorem law_holds.tw13182730311906835528 : True := trivial
theorem law_holds.tw13220211186989608806 : True := trivial
theorem law_holds.tw13284372279281303520 : True := trivial
theorem law_holds.tw13301187468288870568 : True := trivial
theorem law_holds.tw13392613628428298086 : True := trivial
theorem law_holds.tw13397297893571687751 : True := trivial
theorem law_holds.tw13402424001964919149 : True := trivial
theorem law_holds.tw13431030151845061361 : True := trivial
theorem law_holds.tw13442245340529210804 : True := trivial
theorem law_holds.tw13536078969547264968 : True := trivial
theorem law_holds.tw13709617746848070560 : True := trivial
theorem law_holds.tw13766487248619392586 : True := trivial
theorem law_holds.tw1377309892636839040 : True := trivial
theorem law_holds.tw13800757232730249582 : True := trivial
theorem law_holds.tw13956741780833797525 : True := trivial
theorem law_holds.tw1414043511812021011 : True := trivial
theorem law_holds.tw14160533322030094474 : True := trivial
theorem law_holds.tw14289194402921355359 : True := trivial
theorem law_holds.tw14335913921861858828 : True := trivial
theorem law_holds.tw14385925486924208373 : True := trivial
theorem law_holds.tw14390095281932903014 : True := trivial
theorem law_holds.tw14423400962678602746 : True := trivial
theorem law_holds.tw14498155544194170393 : True := trivial
theorem law_holds.tw14545874151571354728 : True := trivial
theorem law_holds.tw14822640431511872941 : True := trivial
theorem law_holds.tw14828999820898988419 : True := trivial
theorem law_holds.tw14883556706271630602 : True := trivial
theorem law_holds.tw14925382992726071281 : True := trivial
theorem law_holds.tw14983226153234331074 : True := trivial
theorem law_holds.tw14988988175077273356 : True := trivial
theorem law_holds.tw14991590004735058009 : True := trivial
theorem law_holds.tw14997073306097389879 : True := trivial
theorem law_holds.tw15076190513448903066 : True := trivial
theorem law_holds.tw15191720212996534143 : True := trivial
theorem law_holds.tw15274831704391544125 : True := trivial
theorem law_holds.tw15448297888555860652 : True := trivial
theorem law_holds.tw15452448965706171373 : True := trivial
theorem law_holds.tw15472126771306010800 : True := trivial
theorem law_holds.tw15544829507116839252 : True := trivial
theorem law_holds.tw15661869461025623997 : True := trivial
theorem law_holds.tw15694993059591697976 : True := trivial
theorem law_holds.tw15802469936163623734 : True := trivial
theorem law_holds.tw15806970514647361693 : True := trivial
theorem law_holds.tw16099233806120587224 : True := trivial
theorem law_holds.tw1622690429015379626 : True := trivial
theorem law_holds.tw16273140198857503625 : True := trivial
theorem law_holds.tw16461882675039125421 : True := trivial
theorem law_holds.tw16614716721108272449 : True := trivial
theorem law_holds.tw16647017359455956407 : True := trivial
theorem law_holds.tw1670043908289496885 : True := trivial
theorem law_holds.tw16720094985154256693 : True := trivial
theorem law_holds.tw16805829885119392726 : True := trivial
theorem law_holds.tw16836969012518115619 : True := trivial
theorem law_holds.tw16883458599210261866 : True := trivial
theorem law_holds.tw16893121556090616931 : True := trivial
theorem law_holds.tw1689763614830377041 : True := trivial
theorem law_holds.tw17027635718292003107 : True := trivial
theorem law_holds.tw17180001009569633970 : True := trivial
theorem law_holds.tw1724926542741425601 : True := trivial
theorem law_holds.tw17253903310271361901 : True := trivial
theorem law_holds.tw17255088995462705879 : True := trivial
theorem law_holds.tw17499823404086765753 : True := trivial
theorem law_holds.tw1762888911704233025 : True := trivial
theorem law_holds.tw17713402740875732926 : True := trivial
theorem law_holds.tw17911580528928914924 : True := trivial
theorem law_holds.tw17942709131360195518 : True := trivial
theorem law_holds.tw179590077315354965 : True := trivial
theorem law_holds.tw18090433342136740992 : True := trivial
theorem law_holds.tw18203989763732354715 : True := trivial
theorem law_holds.tw18234560199702728603 : True := trivial
theorem law_holds.tw18254337876149969668 : True := trivial
theorem law_holds.tw18269650602155537469 : True := trivial
theorem law_holds.tw18326849912455186884 : True := trivial
theorem law_holds.tw18340598423539479173 : True := trivial
theorem law_holds.tw1905533677188600702 : True := trivial
theorem law_holds.tw1928719863018725356 : True := trivial
theorem law_holds.tw1989176631692091739 : True := trivial
theorem law_holds.tw2043166853727251185 : True := trivial
theorem law_holds.tw2075624079617657780 : True := trivial
theorem law_holds.tw2102315897755806987 : True := trivial
theorem law_holds.tw2136269947727277649 : True := trivial
theorem law_holds.tw2143268655074302082 : True := trivial
theorem law_holds.tw2295933128562542503 : True := trivial
theorem law_holds.tw2387193687640843687 : True := trivial
theorem law_holds.tw2446358144275080391 : True := trivial
theorem law_holds.tw2578278018795888234 : True := trivial
theorem law_holds.tw2643271747718453845 : True := trivial
theorem law_holds.tw2856731137302751260 : True := trivial
theorem law_holds.tw2907507879108658156 : True := trivial
theorem law_holds.tw3035144380315620824 : True := trivial
theorem law_holds.tw3144976814129123475 : True := trivial
theorem law_holds.tw3158129796062787159 : True := trivial
theorem law_holds.tw3186734533307500241 : True := trivial
theorem law_holds.tw3253568177066640346 : True := trivial
theorem law_holds.tw3366817510852727610 : True := trivial
theorem law_holds.tw3426384778480675251 : True := trivial
theorem law_holds.tw3438298445031660282 : True := trivial
theorem law_holds.tw3742325753681652743 : True := trivial
theorem law_holds.tw3756308257209627903 : True := trivial
theorem law_holds.tw3850375180904979519 : True := trivial
theorem law_holds.tw3910120701321347557 : True := trivial
theorem law_holds.tw3912811242725288453 : True := trivial
theorem law_holds.tw3956099054510807996 : True := trivial
theorem law_holds.tw4030767218360268280 : True := trivial
theorem law_holds.tw4273555757443719353 : True := trivial
theorem law_holds.tw4402771512931791134 : True := trivial
theorem law_holds.tw4439653461905209652 : True := trivial
theorem law_holds.tw4441770287765753910 : True := trivial
theorem law_holds.tw4464252984393422682 : True := trivial
theorem law_holds.tw447027507633508388 : True := trivial
theorem law_holds.tw4581845663705801772 : True := trivial
theorem law_holds.tw4781243967656130014 : True := trivial
theorem law_holds.tw4818577856007422655 : True := trivial
theorem law_holds.tw4916342969005030805 : True := trivial
theorem law_holds.tw498061464947678834 : True := trivial
theorem law_holds.tw4992725456586698614 : True := trivial
theorem law_holds.tw5112083995522966620 : True := trivial
theorem law_holds.tw519298541982818421 : True := trivial
theorem law_holds.tw5212653520564569363 : True := trivial
theorem law_holds.tw5216847980289458326 : True := trivial
theorem law_holds.tw545109181885906688 : True := trivial
theorem law_holds.tw545679637281252710 : True := trivial
theorem law_holds.tw5506821171919863439 : True := trivial
theorem law_holds.tw5640673133297012132 : True := trivial
theorem law_holds.tw575232530192455986 : True := trivial
theorem law_holds.tw576407869801174206 : True := trivial
theorem law_holds.tw5873227374133038620 : True := trivial
theorem law_holds.tw602461330855297101 : True := trivial
theorem law_holds.tw6159533029260741167 : True := trivial
theorem law_holds.tw6317479115527610633 : True := trivial
theorem law_holds.tw6499956759230125245 : True := trivial
theorem law_holds.tw6507877686720480950 : True := trivial
theorem law_holds.tw6564709946809587534 : True := trivial
theorem law_holds.tw6667284449218939238 : True := trivial
theorem law_holds.tw6776455111828631412 : True := trivial
theorem law_holds.tw67905996137137118 : True := trivial
theorem law_holds.tw6869992995446874880 : True := trivial
theorem law_holds.tw6934448944433832347 : True := trivial
theorem law_holds.tw7019463264422422977 : True := trivial
theorem law_holds.tw7120836010843673076 : True := trivial
theorem law_holds.tw718173064312146323 : True := trivial
theorem law_holds.tw7185456241796803578 : True := trivial
theorem law_holds.tw7221428835167493151 : True := trivial
theorem law_holds.tw724200737284857819 : True := trivial
theorem law_holds.tw7304591109411159013 : True := trivial
theorem law_holds.tw7356724547972884604 : True := trivial
theorem law_holds.tw7408322871517469003 : True := trivial
theorem law_holds.tw7443363072745177481 : True := trivial
theorem law_holds.tw7497986649931050792 : True := trivial
theorem law_holds.tw7636989558263936852 : True := trivial
theorem law_holds.tw7820799176418779761 : True := trivial
theorem law_holds.tw784011647948385275 : True := trivial
theorem law_holds.tw7910590604623066228 : True := trivial
theorem law_holds.tw8176227357466254829 : True := trivial
theorem law_holds.tw8266603773606604290 : True := trivial
theorem law_holds.tw8285764192309689115 : True := trivial
theorem law_holds.tw8330938851228082562 : True := trivial
theorem law_holds.tw8441880690091102137 : True := trivial
theorem law_holds.tw8553002610548859549 : True := trivial
theorem law_holds.tw8634839017697508684 : True := trivial
theorem law_holds.tw8652346329174877282 : True := trivial
theorem law_holds.tw8666519363043736892 : True := trivial
theorem law_holds.tw8785698371604719795 : True := trivial
theorem law_holds.tw8835965917227929528 : True := trivial
theorem law_holds.tw8843617100886180445 : True := trivial
theorem law_holds.tw8854015012368427407 : True := trivial
theorem law_holds.tw8857742495270377987 : True := trivial
theorem law_holds.tw8957123355933967898 : True := trivial
theorem law_holds.tw8970147916757833333 : True := trivial
theorem law_holds.tw8984712037535005518 : True := trivial
theorem law_holds.tw9013377322688217293 : True := trivial
theorem law_holds.tw9069877914133315304 : True := trivial
theorem law_holds.tw9168033884955339765 : True := trivial
theorem law_holds.tw9184033795430018204 : True := trivial
theorem law_holds.tw9207643191828677137 : True := trivial
theorem law_holds.tw9255152265573255198 : True := trivial
theorem law_holds.tw926570990666696690 : True := trivial
theorem law_holds.tw9423440377400516374 : True := trivial
theorem law_holds.tw9529696498207198238 : True := trivial
theorem law_holds.tw9552830710289189752 : True := trivial
theorem law_holds.tw9606376775287448836 : True := trivial
theorem law_holds.tw9682718004065560343 : True := trivial
theorem law_holds.tw9779807473162285230 : True := trivial
theorem law_holds.tw9849722394096787677 : True := trivial
theorem law_holds.tw9875236377963488844 : True := trivial
theorem law_holds.tw9992725586745946429 : True := trivial
set_option Elab.async true
set_option maxRecDepth 100000 in
set_option maxHeartbeats 8000000 in
theorem law_holds : PySem.Challenge.rw_wj0071_01.Holds := by
  w_on
  o_law
  o_head (kHook pre.heap_1 [0,1,2,3,4,5,6,7,8,9,10,11,12,13,14,15,16,17,18,19,20,21,22,23,24,25,26,27,28,36,37,38,39,40,41,42,43,44,45,46,47,48,49,50,51,52,53,54,55,56,57,58,59,60,61,62,63,64,65,66,67,68,69,70,71,72,73,74,75,76,77,78,79,80,81,82,83,84,85,86,87,88,89,90,91,92,93,94,95,96,97,98,99,100,101,102,103,106,109,114,115,116,117,118,119,120,121,122,123,124,125,126,127,128,129,130,131,132,133,134,135,136,137,138,139,140,141,142,143,144,145,146,147,148,149,150,151,152,153,154,155,156,157,158,159,160,161,162,163,164,165,166,167,168,169,170,171,172,173,174,175,176,177,178,179,180,181,182,183,184,185,186,187,190,193,194,195,196,197,198,199,200,201,202,203,204,205,206,207,208,209,210,211,212,213,214,215,216,217,218,219,220,221,222,223,224,225,226,227,228,229,230,231,232,233,234,235] (fun _ => by kernel_rfl))
  (case hw => w_witness2)
  intro w s₀ s₁ mg mb fa args vals as Y B
  obtain ⟨G, hmg, hg, hpre, hlay, hrd, hwl, hlo⟩ := B
  have KX := kIn_of Y
  have T := G.T
  have hfa : fa = 235 := by
    have h1 : mg (Str.ofString "law") = some (.ref fa) := hmg
    have h2 : mg (Str.ofString "law") = some (.ref 235) := mg_of KX T.g (by kernel_rfl)
    rw [h1] at h2; cases h2; rfl
  subst hfa
  clear Y G hmg
  wrow_args hpre hlay hrd hwl hlo
  rename_i script _ _ _ _ _ _ a vs _ hl _ _ _ hi _ hlen _
  refine wpB.call (codeB.mono (law_final (p := _) (loose := _) (mean := _) rfl rfl KX T hg hl hi (by omega)) fun res s' h => ?_)
  obtain ⟨rfl, h2, h3, h4⟩ := h
  refine ⟨.inl ⟨.bool true, .bool true, [], rfl, fun _ => rfl, ?_, ?_, fun _ => ⟨.nil, fun _ h => nomatch h⟩⟩, h2, h3, h4⟩
  · first | exact .bool _ | exact ReadsW.bool | constructor
  · first | rfl | kernel_rfl
end
end Mine
theorem PySem.Challenge.cw_wj0071_01_holds : PySem.Challenge.rw_wj0071_01.Holds := by
  exact Mine.law_holds
