import PyProof.Rows.All
import Wide.All
import OpenK.AllK
import Wide.FinOn
import Lean
import PySem.Challenge.RW_fq0021_01
set_option Elab.async false
set_option rowWalk.seconds 0
section
open PySem PySem.W PySem.Calls PyProof.Rows
set_option maxRecDepth 100000
namespace Mine
/-- no finaliser of a collection is at work -/
def noFinC : Code → Bool
  | .builtin id _ => id != "lifetime.gc.finalise"
  | _ => true
def noFin (st : List (Code × Pos)) : Bool := st.all fun x => noFinC x.1
/-- wpAny, over the stacks without such a finaliser -/
def wpG {α : Type} (M : Model) (A : Around) (t : Sem α) (Q : α → Shared → Prop) (E : Value → Shared → Prop) (s : Shared) : Prop :=
  ∀ Γ p, Γ.In A → noFinC Γ.code = true → noFin Γ.below = true → Sem.wp M Γ t (fun a _ s' => Q a s') (fun e _ s' => E e s') p s
def codeG (M : Model) (A : Around) (c : Code) (R : Result → Shared → Prop) (s : Shared) : Prop :=
  ∀ Γ p, Γ.code = c → Γ.Below A → noFin Γ.below = true → wpCode M Γ R p s
section
variable {α β : Type} {M : Model} {A : Around} {E : Value → Shared → Prop} {s : Shared}
theorem wpG_of {t : Sem α} {Q : α → Shared → Prop} (h : wpAny M A t Q E s) : wpG M A t Q E s := fun Γ p hΓ _ _ => h Γ p hΓ
theorem wpG_mono {t : Sem α} {Q Q' : α → Shared → Prop} {E' : Value → Shared → Prop} (h : wpG M A t Q E s) (hQ : ∀ a s, Q a s → Q' a s) (hE : ∀ e s, E e s → E' e s) : wpG M A t Q' E' s :=
  fun Γ p hΓ h1 h2 => Sem.wp_mono M Γ t (fun a _ s => hQ a s) (fun e _ s => hE e s) p s (h Γ p hΓ h1 h2)
theorem wpG_bind {m : Sem α} {f : α → Sem β} {Q : β → Shared → Prop} (h : wpG M A m (fun a s' => wpG M A (f a) Q E s') E s) : wpG M A (m >>= f) Q E s := fun Γ p hΓ h1 h2 => by
  rw [Sem.wp_bind']
  exact Sem.wp_mono M Γ m (fun a p' s' h' => h' Γ p' hΓ h1 h2) (fun _ _ _ h' => h') p s (h Γ p hΓ h1 h2)
theorem wpG_pure {a : α} {Q : α → Shared → Prop} (h : Q a s) : wpG M A (pure a) Q E s := wpG_of (wpAny_pure h)
theorem wpG_onRaise {m : Sem α} {k : Value → Sem Unit} {Q : α → Shared → Prop} (h : wpG M A m Q (fun e s' => wpG M A (k e) (fun _ s'' => E e s'') E s') s) : wpG M A (m.onRaise k) Q E s := fun Γ p hΓ h1 h2 => by
  rw [Sem.wp_onRaise]
  exact Sem.wp_mono M Γ m (fun _ _ _ h' => h') (fun e p' s' h' => h' Γ p' hΓ h1 h2) p s (h Γ p hΓ h1 h2)
theorem wpG_attempt {m : Sem α} {Q : Except Value α → Shared → Prop} (h : wpG M A m (fun a => Q (.ok a)) (fun e => Q (.error e)) s) : wpG M A m.attempt Q E s :=
  fun Γ p hΓ h1 h2 => by rw [Sem.wp_attempt]; exact h Γ p hΓ h1 h2
theorem wpG_holding {vs : List Value} {m : Sem α} {Q : α → Shared → Prop} (h : wpG M A m Q E s) : wpG M A (holding vs m) Q E s :=
  fun Γ p hΓ h1 h2 => by rw [Sem.wp_holding]; exact h Γ p hΓ h1 h2
theorem wpG_stack {Q : List (Code × Pos) → Shared → Prop} (h : ∀ st, noFin st = true → Q st s) : wpG M A stack Q E s := fun Γ p _ h1 h2 => by
  show Q ((Γ.code, p) :: Γ.below) s
  exact h _ (by simp only [noFin, List.all_cons, Bool.and_eq_true]; exact ⟨h1, h2⟩)
theorem codeG_of {c : Code} {R : Result → Shared → Prop} (h : codeAny M A c R s) : codeG M A c R s := fun Γ p hc hΓ _ => h Γ p hc hΓ
theorem wpG_runValue {c : Code} {Q : Value → Shared → Prop} (hc : codeG M A c (fun r s' => match r with | .ok (.ret v) => Q v s' | .ok _ => False | .error e => E e s') s) : wpG M A (runValue c) Q E s :=
  fun Γ p hΓ h1 h2 => by
    rw [Sem.wp_runValue]
    exact hc _ p rfl (hΓ.enter c none p (by intro x; cases x)) (by simp only [Ctx.enter, noFin, List.all_cons, Bool.and_eq_true]; exact ⟨h1, h2⟩)
theorem wpG_call {f : Value} {pos : List Value} {kw : List (Str × Value)} {Q : Value → Shared → Prop} (hc : codeG M A (.call f ⟨pos, kw⟩) (fun r s' => match r with | .ok (.ret v) => Q v s' | .ok _ => False | .error e => E e s') s) :
    wpG M A (call f pos kw) Q E s := wpG_runValue hc
theorem codeG_of_tree {c : Code} {R : Result → Shared → Prop} (hf : noFinC c = true)
    (h : wpG M (A.under c) (M.den c) (fun fin s' => match fin with | .done f => R (.ok f) s' | .again c' => c'.quiet = true ∧ codeG M A c' R s') (fun e s' => R (.error e) s') s) : codeG M A c R s := fun Γ p hc hΓ hb => by
  rw [wpCode_iff_wp, hc]
  refine Sem.wp_mono M Γ _ (fun fin p' s' h' => ?_) (fun _ _ _ h' => h') p s (h Γ p (hc ▸ hΓ.in) (hc ▸ hf) hb)
  cases fin with
  | done f => exact h'
  | again c' => exact ⟨h'.1, h'.2 (Γ.goto c') p' rfl (hΓ.goto c') hb⟩
end
section
variable {prog : Program} {w : World} {A : Around} {E : Value → Shared → Prop} {s : Shared} {R : Result → Shared → Prop}
theorem codeG_builtin {id : String} {args : Args} {b : Builtin} (hf : (id != "lifetime.gc.finalise") = true) (hb : entryFor table id = some b)
    (h : wpG (model prog w) (A.under (.builtin id args)) (b args) (fun fin s' => match fin with | .done f => R (.ok f) s' | .again c' => c'.quiet = true ∧ codeG (model prog w) A c' R s') (fun e s' => R (.error e) s') s) :
    codeG (model prog w) A (.builtin id args) R s := by
  refine codeG_of_tree hf ?_
  show wpG _ _ (match entryFor table id with | some b => b args | none => unsupported ((withoutEnding? id "#data").getD id)) _ _ s
  rw [hb]; exact h
theorem codeG_call_builtin {id : String} {args : Args} {b : Builtin} (hf : (id != "lifetime.gc.finalise") = true) (hq : plainId id = true) (hb : entryFor table id = some b)
    (h : wpAny (model prog w) A.in1 (checkBuiltinCall id args) (fun _ s₁ => wpG (model prog w) A.in1 (b args)
      (fun fin s' => match fin with | .done f => R (.ok f) s' | .again c' => c'.quiet = true ∧ codeG (model prog w) A c' R s') (fun e s' => R (.error e) s') s₁)
      (fun e s' => R (.error e) s') s) : codeG (model prog w) A (.call (.builtin id) args) R s := by
  refine codeG_of_tree rfl ?_
  show wpG _ A.in1 (do checkBuiltinCall id args; again (.builtin id args)) _ _ s
  refine wpG_bind (wpG_of (wpAny_mono h (fun _ s₁ h₁ => wpG_pure (And.intro (plainId_quiet hq args) (codeG_builtin hf hb ?_))) fun _ _ h' => h'))
  rw [Around.under_plainId hq args]
  exact h₁
/-- a function of the text, entered -/
theorem codeG_call_function {a : Addr} {args : Args} {o : Obj} {fd : FuncData} {body : List Stmt} (hroom : A.depth < recursionLimit) (ho : s.heap.get? a = some o) (hd' : o.data = .func fd) (hco : fd.scope.isCoroutine = false) (hgen : fd.scope.isGenerator = false)
    (hbody : fd.body = .stmts body) (hcd : s.heap.CodeRec fd.code fd.qualname)
    (h : wpAny (model prog w) A.in1 (bindArgs fd args) (fun binds s₁ =>
      wpAny (model prog w) A.in1 (newFunctionEnv fd.scope fd.globals fd.closure binds (fd.qualname ++ ".<locals>.") (some a) fd.code none fd.builtins)
        (fun env s₂ => s₂.heap.NoLimit ∧ wpG (model prog w) (A.deeper env) (execs body env) (fun f s' => R (.ok (.ret (match f with | .ret v => v | _ => .none))) s')
          (fun e s' => wpAny (model prog w) (A.deeper env) (leaving env e) (fun _ s'' => R (.error e) s'') (fun e' s'' => R (.error e') s'') s') s₂) (fun e s' => R (.error e) s') s₁) (fun e s' => R (.error e) s') s) :
    codeG (model prog w) A (.call (.ref a) args) R s := by
  refine codeG_of_tree rfl ?_
  show wpG _ A.in1 (callAny (.ref a) args) _ _ s
  simp only [callAny]
  refine wpG_bind (wpG_of (wpAny_load ho ?_))
  obtain ⟨c, oc, vs, tq, hc, hoc, hdc, hq⟩ := hcd
  simp only [hd', callFunction, hco, hgen, hbody, hc]
  rw [hc] at h
  refine wpG_bind (m := field (.ref c) 1) (wpG_of (wpAny_field hoc hdc hq (wpG_bind (wpG_pure ?_))))
  refine wpG_bind (wpG_of (wpAny_mono h (fun binds s₁ h₁ => wpG_bind (wpG_of (wpAny_mono h₁ (fun env s₂ h₂ => wpG_bind (wpG_of (wpAny_enterFrame h₂.1 hroom
    (wpG_pure (And.intro rfl (codeG_of_tree rfl ?_)))))) fun _ _ h' => h'))) fun _ _ h' => h'))
  show wpG _ (A.deeper env) (do point; match ← (execs body env).onRaise (leaving env) with | .ret v => ret v | _ => ret .none) _ _ s₂
  refine wpG_bind (wpG_of (wpAny_point (wpG_bind (wpG_onRaise (wpG_mono h₂.2 (fun f s' h' => ?_) fun _ _ h' => wpG_of h')))))
  cases f <;> exact wpG_pure h'
variable {env : Env}
theorem wpG_execs_cons {st rest} {Q : Flow → Shared → Prop} (h : wpG (model prog w) A (exec st env) (fun f s' => match f with | .next => wpG (model prog w) A (execs rest env) Q E s' | f => Q f s') E s) :
    wpG (model prog w) A (execs (st :: rest) env) Q E s := fun Γ p hΓ h1 h2 => by
  rw [execs_cons, Sem.wp_bind']
  refine Sem.wp_mono _ Γ _ (fun f p' s' h' => ?_) (fun _ _ _ h' => h') _ _ (h Γ p hΓ h1 h2)
  cases f <;> first | exact h' Γ p' hΓ h1 h2 | exact h'
theorem wpG_Assign_Name {x pos' value pos} {Q : Flow → Shared → Prop} (h : wpG (model prog w) A (eval value env) (fun v s₁ => wpG (model prog w) A (storeName env x v) (fun _ => Q .next) E s₁) E s)
    (hs : swapsWith value (some (.Name x pos')) pos.line env = pure false := by rfl) : wpG (model prog w) A (exec (.Assign [.Name x pos'] value pos) env) Q E s := fun Γ p hΓ h1 h2 => by
  simp only [exec_Assign_Name env x pos' value pos hs, Sem.wp_bind', Sem.wp_cmd_standAt, Sem.wp_bindName, Sem.wp_pure']
  exact Sem.wp_mono _ Γ _ (fun v _ s₁ h₁ => h₁ Γ _ hΓ h1 h2) (fun _ _ _ h' => h') _ _ (h Γ _ hΓ h1 h2)
theorem wpG_Attribute_Name {x attr : Str} {xp pos : Pos} {Q : Value → Shared → Prop}
    (h : wpAny (model prog w) A (eval (.Name x xp) env) (fun o s₁ => wpG (model prog w) A (getAttr o attr true) Q E s₁) E s)
    (he : eval (.Attribute (.Name x xp) attr pos) env = (do
      let o ← eval (.Name x xp) env
      standAt pos.atName
      let r ← holding [o] (getAttr o attr true)
      letTemporaryGo (.Name x xp) o r
      pure r) := by with_unfolding_all rfl) :
    wpG (model prog w) A (eval (.Attribute (.Name x xp) attr pos) env) Q E s := by
  rw [he]
  refine wpG_bind (wpG_of (wpAny_mono h (fun o s₁ h₁ => wpG_bind (wpG_of (wpAny_standAt (wpG_bind (wpG_holding (wpG_mono h₁ (fun r s₂ h₂ => ?_) fun _ _ x => x)))))) fun _ _ x => x))
  exact wpG_bind (m := letTemporaryGo (.Name x xp) o r) (wpG_of (wpAny_of_eq (a := ()) rfl (wpG_pure h₂)))
theorem wpG_Try {body orelse : List Stmt} {h₀ : ExceptHandler} {hs : List ExceptHandler} {pos : Pos} {Q : Flow → Shared → Prop}
    (h : wpG (model prog w) A (execs body env) (fun f s₁ => match f with | .next => wpG (model prog w) A (execs orelse env) Q E s₁ | f => Q f s₁)
      (fun e s₁ => wpAny (model prog w) A (noteFrame e env) (fun _ s₂ => wpAny (model prog w) A (setFlight e none) (fun _ s₃ => wpAny (model prog w) A (handleBy e env (h₀ :: hs)) Q E s₃) E s₂) E s₁) s) :
    wpG (model prog w) A (exec (.Try body (h₀ :: hs) orelse [] pos) env) Q E s := by
  rw [arm_exec_Try]
  refine wpG_bind (wpG_of (wpAny_standAt ?_))
  unfold tryStmt
  simp only [List.isEmpty_nil, if_true, List.isEmpty_cons, Bool.false_and, Bool.false_eq_true, if_false]
  refine wpG_bind (wpG_attempt (wpG_mono h (fun f s₁ h₁ => ?_) fun e s₁ h₁ => ?_))
  · cases f <;> first | exact h₁ | exact wpG_pure h₁
  · exact wpG_bind (wpG_of (wpAny_mono h₁ (fun _ _ h₂ => wpG_of (wpAny_bind h₂)) fun _ _ x => x))
end
end Mine
end
section
open PySem PySem.W PySem.Calls PyProof.Rows
set_option maxRecDepth 100000
namespace Mine
section
variable {prog : Program} {w : World} {t : Sem Fin} {s : Shared}
/-- the stack of the caller's thread holds no finaliser -/
theorem ends_guarded {R : Result → Shared → Prop} (hreg : s.asleep)
    (h : wpG (model prog w) callerA t (fun fin s' => ∃ f, fin = .done f ∧ (R (.ok f) s' ∧ leftWithCleanup s'.gens = false)) (fun e s' => R (.error e) s' ∧ leftWithCleanup s'.gens = false) s) :
    ∃ n r s' s'', runN (denote table) prog w n s ⟨t, .builtin "claim.caller" {}, default, []⟩ = .halted (outcomeOf r) s' ∧
      schedN (denote table) prog w n (.single s ⟨t, .builtin "claim.caller" {}, default, []⟩) = .halted (outcomeOf r) s' ∧ s'.forget = s''.forget ∧ R r s'' := by
  have hwp : Sem.wp (model prog w) ⟨.builtin "claim.caller" {}, none, none, [], none⟩ t (Sem.finPost (model prog w) ⟨.builtin "claim.caller" {}, none, none, [], none⟩ fun r s' => R r s' ∧ leftWithCleanup s'.gens = false) (fun e _ s' => R (.error e) s' ∧ leftWithCleanup s'.gens = false) default s :=
    Sem.wp_mono _ _ _ (fun fin p' s' h' => by obtain ⟨f, rfl, hf⟩ := h'; exact hf) (fun _ _ _ h' => h') _ _ (h _ default caller_in (by decide) rfl)
  obtain ⟨n, r, s₁, s₂, hs, hn, hfo, hR⟩ := wp_halts_full (M := model prog w) (R := R) hreg hwp
  exact ⟨n, r, s₂, s₁, hn, hs, hfo, hR⟩
end
theorem callFrom_guarded {c : ClaimW} {tree : List Value → Sem Fin} {w : World} {s : Shared} {free : Addr → Prop} {gens : Prop} {kept : Heap → Prop} (hz : s.asleep) (hgens : s.gens = #[])
    (hspec : ∀ args, c.pre args = true → WData.layableAll args = true → ∀ ord : List DictEntry → List DictEntry, (∀ l, (ord l).Perm l) →
      ∃ vs s₁, layAllW c.records (classAt s.heap) w.params ord args s = some (vs, s₁) ∧
        wpG (model c.prog w) callerA (tree vs) (fun fin s' => ∃ f, fin = .done f ∧ (c.Ends s args vs s₁ (.ok f) s' ∧ s'.os = s.os ∧ AllBare s'.gens ∧ kept s'.heap))
          (fun e s' => c.Ends s args vs s₁ (.error e) s' ∧ s'.os = s.os ∧ AllBare s'.gens ∧ kept s'.heap) s₁) :
    c.CallFrom (fun vs => ⟨tree vs, .builtin "claim.caller" {}, default, []⟩) w free gens kept s := by
  intro args hpre hlay ord hord
  obtain ⟨vs, s₁, hlaid, hcode⟩ := hspec args hpre hlay ord hord
  have hal := layAllW_rest _ _ _ hlaid
  have hasl := Shared.asleep_of_life hal.2.2.2 hz
  obtain ⟨k, r, s', s'', hrun, hsched, hfo, hcase, hos, hkp⟩ := ends_guarded (R := fun r s' => c.Ends s args vs s₁ r s' ∧ s'.os = s.os ∧ kept s'.heap) hasl
    (wpG_mono hcode (fun _ _ ⟨f, e, a1, a2, a3, a4⟩ => ⟨f, e, ⟨a1, a2, a4⟩, leftWithCleanup_false_of_bare a3⟩) fun _ _ ⟨a1, a2, a3, a4⟩ => ⟨⟨a1, a2, a4⟩, leftWithCleanup_false_of_bare a3⟩)
  obtain ⟨eh, _, _, eo, _⟩ := Shared.forget_eq hfo
  have hcase' := hcase.congr eh
  have hkp' : kept s'.heap := by rw [eh]; exact hkp
  have hos' : s'.os = s.os := eo.trans hos
  have hlife : s'.heap.life = s.heap.life := (runN_life _ _ _ hrun).trans hal.2.2.2
  refine ⟨vs, s₁, hlaid, k, _, s', hsched, ?_, (fun _ i x hx => by rw [hgens] at hx; simp at hx), hkp', by rw [hlife], Shared.rest_eq hos'⟩
  rcases hcase' with ⟨v, rfl, d1, d2, d3, d4, d5⟩ | ⟨e, ob, cls, rfl, d1, d2, d3, d4, d5⟩
  · exact .inl ⟨v, rfl, d1, d2, d3, fun b o y _ => d4 b o y, d5⟩
  · exact .inr ⟨e, ob, cls, rfl, d1, d2, d3, d4, fun b o y _ => d5 b o y⟩
/-- what is to be shown of the law's call: over the stacks without a finaliser -/
abbrev WalkG (q : Program) (loose : List Str) (XP : (Str → Option Value) → Heap → Prop) (YP : World → Heap → Prop) (r : RowW) (d : DefRec) (kwd : List (Str × Expr)) : Prop :=
  ∀ (w : World) (s₀ s₁ : Shared) (mg mb : Str → Option Value), Ground q loose r.records XP w s₀ mg mb s₁.heap → YP w s₁.heap → ∀ (a : Addr) (o : Obj) (pm cd doc dV kV : Value), s₁.heap.get? a = some o →
    o.data = .func { docDef d.name d.params d.body d.scope pm cd doc with defaults := dV, kwdefaults := kV } → s₁.heap.CodeRec cd d.name → Dflts mg s₁.heap d.params kwd dV kV → mg d.name = some (.ref a) → s₁.gens = #[] →
    ∀ (args : List WData) (vals : List Value) (as : List Addr), r.claim.pre args = true → WData.layableAll args = true → ReadsAllW r.records (classAt s₀.heap) s₁.heap vals args as → WellAll w.params s₁.heap vals args → (∀ a ∈ as, (a == sysModules) = false) →
      wpG (model r.prog w) callerA (PySem.call (.ref a) vals) (fun v s' => GoodWG r.claim (classAt s₀.heap) (ExcName.means s₀.heap) args s₁ (.ok (.ret v)) s')
        (fun e s' => GoodWG r.claim (classAt s₀.heap) (ExcName.means s₀.heap) args s₁ (.error e) s') s₁
/-- the head, for such a walk -/
theorem PySem.W.holds_open {r : OpenRow} {q : Program} {loose : List Str} {Xt : Shared → Bool} {XP : (Str → Option Value) → Heap → Prop} {α : Type} {Yf : Shared → α} {Ya : World → α} {YP : World → Heap → Prop} {d : DefRec} {kwd : List (Str × Expr)} {N : Nat}
    (left : LeftO r.prog q loose Xt Yf Ya N) (hY : ∀ w s, Yf s = Ya w → YP w s.heap) (hYk : ∀ w h h', YP w h → (∀ b o, h.get? b = some o → h'.get? b = some o) → YP w h')
    (hX : ∀ s, Xt s = true → XP (s.heap.nsMap mainGlobals) s.heap) (hXk : ∀ mg h h', XP mg h → (∀ b o, h.get? b = some o → h'.get? b = some o) → XP mg h')
    (hdef : defOf q r.name = some (d, kwd)) (hp : r.prog.theDef r.name = some (d.params, d.body, d.scope)) (hk : kwWritten? d.params.kwonlyargs d.params.kw_defaults = some kwd) (hRf : ∀ s, Xt s = true → RecFacts r.records s.heap) (hwr : (!r.writes || r.records.isEmpty) = true)
    (k1 : r.wellSaid = true) (ok : (chainsOk q && opensWell r.prog && (frees r.toRowW && r.within.isEmpty)) = true) (hb : r.prog.bare) (hw : r.toRowW.promised) (call : WalkG q loose XP YP r.toRowW d kwd) : r.Holds := by
  refine ⟨k1, hw, ?_⟩
  obtain ⟨okA, okB⟩ := Bool.and_eq_true_iff.mp ok
  obtain ⟨hch, o1⟩ := Bool.and_eq_true_iff.mp okA
  obtain ⟨k5, k6⟩ := Bool.and_eq_true_iff.mp okB
  obtain ⟨hsame, hu, ha, hap, hm⟩ := frees_parts k5
  have both := fun w => left.behind (XP := fun mg h => XP mg h ∧ RecFacts r.records h) (fun s hs => ⟨hX s hs, hRf s hs⟩) hch w
  refine ⟨⟨hb, o1, by show r.makers.map _ = []; rw [hm]; rfl⟩, hw.witness, fun w => ⟨(both w).1, fun s' hs' => ?_⟩⟩
  obtain ⟨s₀, hf, hg0, s, hT, hz, hgens, hg, G00, y⟩ := (both w).2 s' hs'
  have G0 : Ground q loose [] XP w s (s.heap.nsMap mainGlobals) (s.heap.nsMap builtinsNs) s.heap := ⟨G00.T, G00.B, G00.D, G00.TE, G00.TD, G00.W, G00.X.1, G00.cls, G00.has, G00.apart, G00.once, G00.K⟩
  have RF := G00.X.2
  refine ⟨s₀, hf, hg0, s, hT, fun n hn => ?_, RF.1, RF.2.1, ?_⟩
  · obtain rfl : n = r.name := by split at hn <;> simp_all
    exact pinned_of_view hg G0 hdef hp hk
  have hgens' : s.gens = #[] := Array.eq_empty_of_size_eq_zero (beq_iff_eq.mp hgens)
  have G : Ground q loose r.records XP w s _ _ s.heap := RF.ground G0
  refine callFrom_guarded (c := r.toRowW.claim) hz hgens' fun args hpre hlay ord hord => ?_
  obtain ⟨⟨vs, s₁⟩, hlaid⟩ := Option.isSome_iff_exists.mp (layAllW_isSome (P := w.params) (ord := ord) G.has args r.args s (pre_splitW hpre).1)
  have keeps := layAllW_keeps _ _ _ hlaid
  have hal := layAllW_rest _ _ _ hlaid
  obtain ⟨as, hrd, hin, hold⟩ := reads_layAllW hord _ _ _ hlaid hlay s₁.heap (fun _ _ e => e)
  have L : Laid r.records w s s₁ args vs as := ⟨⟨ord, hord, hlaid⟩, hrd, hin, hold, keeps, hal.1.trans hgens', hal.2.2.1⟩
  have G₁ := G.keeps hXk keeps
  obtain ⟨a, o, pm, cd, doc, dV, kV, h1, h2, h3, h4, h5⟩ := G₁.fn hdef
  have hmg : (s.heap.nsMap mainGlobals) r.name = some (.ref a) := h1
  have hcall := call w s s₁ _ _ G₁ (hYk _ _ _ (hY w s y) keeps) a o pm cd doc dV kV h2 h3 h4 h5 (defOf_name hdef ▸ h1) L.gens args vs as hpre hlay L.reads L.well (L.low G.low)
  have hi := ident_freeW hu ha hap
  have hwi : r.toRowW.claim.within = [] := List.isEmpty_iff.mp k6
  have fin : ∀ res s', GoodWG r.toRowW.claim (classAt s.heap) (ExcName.means s.heap) args s₁ res s' → _ := fun res s' g => g.laid (c := r.toRowW.claim) hsame hwi hi L
  refine ⟨vs, s₁, hlaid, ?_⟩
  refine wpG_bind (wpG_of (wpAny_nsGet G₁.T.g ?_))
  rw [hmg]
  refine wpG_bind (wpG_mono hcall (fun v s' g => wpG_pure ⟨_, rfl, (fin _ _ g).1, (fin _ _ g).2.1, (fin _ _ g).2.2, fun q => ⟨namesKept_of hT hg r.keeps keeps g.2.1.old, noTable hwr q⟩⟩)
    fun e s' g => ⟨(fin _ _ g).1, (fin _ _ g).2.1, (fin _ _ g).2.2, fun q => ⟨namesKept_of hT hg r.keeps keeps g.2.1.old, noTable hwr q⟩⟩)
end Mine
end
section
open PySem PySem.W PyProof.Rows
set_option maxRecDepth 100000
set_option maxHeartbeats 8000000
namespace Mine
local macro_rules | `(tactic| o_head ($_f $k $a $e)) => `(tactic| o_head (kmHook $k $a $e [230, 613, 670]))
open_top hd for PySem.Challenge.rw_fq0021_01
end Mine
end
section
open PySem PySem.W PySem.Calls PyProof.Rows
namespace Mine
noncomputable abbrev PP : Program := PySem.Challenge.rw_fq0021_01.row.prog
noncomputable abbrev KK (w : World) : Frag := hd.heap_39 w.params
noncomputable abbrev LV : List Str := (looseW hd.view_39 [Str.ofString "NodeView", Str.ofString "OutEdgeView", Str.ofString "_NOT_FOUND", Str.ofString "cached_property", Str.ofString "Graph"])
abbrev TP : Program := topProg
noncomputable abbrev LS : List Str := LV ++ (recsOf hd.view_39).map (·.name) ++ (litsOf hd.view_39).map (·.1) ++ (clssOf hd.view_39 LV).map (·.name)
def Mk (_ : OpenLaw) (_ : Params → Frag) : Prop := True
theorem of_mk {P : Prop} (h : Mk PySem.Challenge.rw_fq0021_01 hd.heap_39 → P) : P := h trivial
end Mine
end
section
open PySem PySem.W PySem.Calls PySem.Spec PyProof.Rows
set_option maxRecDepth 100000
namespace Mine
section
variable {prog : Program} {w : World} {A : Around} {R : Result → Shared → Prop} {s : Shared}
theorem codeG_mono {c : Code} {R' : Result → Shared → Prop} (h : codeG (model prog w) A c R s) (hR : ∀ r s', R r s' → R' r s') : codeG (model prog w) A c R' s :=
  fun Γ p hc hΓ hb => wpCode_mono hR (h Γ p hc hΓ hb)
/-- a def with cells, entered, over the stacks without a finaliser -/
theorem codeG_call_cells {name : Str} {params : Arguments} {body : List Stmt} {scope : Scope}
    {pm cd doc : Value} {a : Addr} {o : Obj} {args : List Value} {binds : List (Str × Value)}
    (hroom : A.depth < recursionLimit) (ho : s.heap.get? a = some o) (hdata : o.data = .func (Calls.docDef name params body scope pm cd doc)) (hlim : s.heap.NoLimit) (hcd : s.heap.CodeRec cd name)
    (hbind : bindArgs (Calls.docDef name params body scope pm cd doc) ⟨args, []⟩ = pure binds)
    (hkind : ∀ x ∈ binds, scope.names.lookup x.1 = some .local ∨ (scope.names.lookup x.1 = some .cell ∧ ((cellsFrom (s.heap.objs.size + 1) scope.names []).lookup x.1).isSome = true))
    (hnd : ((cellsFrom 0 scope.names []).map (·.1)).Nodup)
    (h : ∀ h₁ tk cells, Fr s.heap s.heap.objs.size h₁ (bindL (envOfC name scope s.heap.objs.size a cd).kindOf binds fun _ => none) → News s.heap s.heap.objs.size h₁ cells →
      CellsAre (bindC (envOfC name scope s.heap.objs.size a cd).kindOf binds fun _ => none) (cellsFrom (s.heap.objs.size + 1) scope.names []) cells →
      wpG (model prog w) (A.deeper (envOfC name scope s.heap.objs.size a cd)) (execs body (envOfC name scope s.heap.objs.size a cd))
        (fun f s' => R (.ok (.ret (match f with | .ret v => v | _ => .none))) s')
        (fun e s' => wpAny (model prog w) (A.deeper (envOfC name scope s.heap.objs.size a cd)) (leaving (envOfC name scope s.heap.objs.size a cd) e)
          (fun _ s'' => R (.error e) s'') (fun e' s'' => R (.error e') s'') s')
        { s with heap := h₁, toks := tk })
    (hco : scope.isCoroutine = false := by rfl) (hgen : scope.isGenerator = false := by rfl) (hk : scope.kind = .function := by rfl) :
    codeG (model prog w) A (.call (.ref a) ⟨args, []⟩) R s := by
  refine codeG_call_function (fd := Calls.docDef name params body scope pm cd doc) hroom ho hdata hco hgen rfl hcd ?_
  rw [hbind]
  refine wpAny_pure (wpAny_newFunctionEnv_cells hk hkind fun env he s' X => ?_)
  subst he
  refine ⟨hlim.keeps X.toInCall.keep, ?_⟩
  obtain ⟨h₁, tk, rfl, _⟩ := X.done
  obtain ⟨cells, N, Y⟩ := Cl.news (h₀ := s.heap) (h := h₁) (L := s.heap.objs.size) (cm := bindC (envOfC name scope s.heap.objs.size a cd).kindOf binds fun _ => none) (cs := cellsFrom (s.heap.objs.size + 1) scope.names []) (Nat.le_refl _) fun n c hm => ⟨X.cell n c (lookup_of_mem_nodup (cellsFrom_names scope.names 0 (s.heap.objs.size + 1) [] [] rfl ▸ hnd) hm), X.above n c hm⟩
  exact h h₁ tk cells ⟨X.toInCall.ns, X.toInCall.keep, X.toInCall.fresh⟩ N Y
theorem wpG_enter {f : Value} {pos : List Value} {kw : List (Str × Value)} {c : ClaimW} {cl : Str → Option Addr} {mean : ExcName → Option Value} {args : List WData} {s₁ : Shared}
    (h : codeG (model prog w) A (.call f ⟨pos, kw⟩) (GoodWG c cl mean args s₁) s) : wpG (model prog w) A (PySem.call f pos kw) (fun v s' => GoodWG c cl mean args s₁ (.ok (.ret v)) s') (fun e s' => GoodWG c cl mean args s₁ (.error e) s') s :=
  wpG_call (codeG_mono h fun res s' g => by rcases g.1 with ⟨v, _, _, rfl, _⟩ | ⟨e, _, _, rfl, _⟩ <;> exact g)
end
/-- the end, at a ghost -/
theorem ghost_post {prog : Program} {w : World} {A : Around} {cd : Code} {s s₁ : Shared} {cw : ClaimW} {cl : Str → Option Addr} {mean : ExcName → Option Value} {args : List WData} {tabs : List (Addr × Addr)} (hT : TabsAt tabs s₁.heap)
    (h : codeG (model prog w) A cd (fun r s' => (∃ v d, r = .ok (.ret v) ∧ (∀ x, cw.raises args x = false) ∧ ReadsW cw.records cl s'.heap v d [] ∧ cw.post args d args = true) ∧ (∀ b o, (ghostOf s₁.heap tabs).get? b = some o → s'.heap.get? b = some o) ∧ s'.os = s₁.os ∧ AllBare s'.gens ∧ GrownAll tabs s'.heap) s) :
    codeG (model prog w) A cd (GoodWG cw cl mean args s₁) s :=
  codeG_mono h fun r s' ⟨⟨v, d, e, hr, h1, h2⟩, hk, hos, hg, hgr⟩ => by
    have keep : ∀ b o, b ∉ tabs.map (·.2) → s₁.heap.get? b = some o → s'.heap.get? b = some o := fun b o hb e => hk b o (ghost_ne e hb)
    have grown : ∀ b o, b ∈ tabs.map (·.2) → s₁.heap.get? b = some o → isCodeTable s₁.heap b ∧ o = tabObj #[] ∧ ∃ ps, s'.heap.get? b = some (tabObj ps) := fun b o hb e => by
      obtain ⟨q, hq, rfl⟩ := List.mem_map.mp hb
      have e2 := (hT q hq).2
      rw [e] at e2
      exact ⟨((hT q hq).1.tab (hT q hq).2).isCodeTable, Option.some.inj e2, hgr.get q hq⟩
    refine ⟨.inl ⟨v, d, [], e, hr, h1, h2, fun _ => ⟨List.nodup_nil, fun a ha => nomatch ha⟩⟩, ⟨fun b o e => ?_, fun b o e => ?_⟩, hos, hg⟩
    · by_cases hb : b ∈ tabs.map (·.2)
      · obtain ⟨ht, rfl, ps, hP⟩ := grown b o hb e
        exact .inr (.inl ⟨ht, rfl, #[], ps, rfl, by rw [Array.empty_append]; exact hP⟩)
      · exact .inl (keep b o hb e)
    · by_cases hb : b ∈ tabs.map (·.2)
      · obtain ⟨_, _, ps, hP⟩ := grown b o hb e
        exact ⟨_, hP⟩
      · exact ⟨o, keep b o hb e⟩
end Mine
end
section
open PySem PySem.W PySem.Calls PyProof.Rows
set_option maxRecDepth 100000
namespace Mine
/-- nothing but the named generators has changed, and none is left with a cleanup -/
structure GIn (gn : List Nat) (a b : Array GenState) : Prop where
  size : b.size = a.size
  but : ∀ k, k ∉ gn → b[k]? = a[k]?
  bare : AllBare a → AllBare b
theorem GIn.refl (gn : List Nat) (a : Array GenState) : GIn gn a a := ⟨rfl, fun _ _ => rfl, id⟩
theorem GIn.trans {gn : List Nat} {a b c : Array GenState} (x : GIn gn a b) (y : GIn gn b c) : GIn gn a c :=
  ⟨y.size.trans x.size, fun k hk => (y.but k hk).trans (x.but k hk), fun h => y.bare (x.bare h)⟩
theorem GIn.mono {gn gn' : List Nat} {a b : Array GenState} (x : GIn gn a b) (h : ∀ k ∈ gn, k ∈ gn') : GIn gn' a b :=
  ⟨x.size, fun k hk => x.but k fun q => hk (h k q), x.bare⟩
theorem GIn.set {gn : List Nat} {s : Shared} {g : Nat} {x : GenState} (hg : g ∈ gn) (hb : x.bare = true) : GIn gn s.gens (s.setGen g x).gens := by
  refine ⟨by simp [Shared.setGen], fun k hk => ?_, fun h y hy => ?_⟩
  · have : g ≠ k := fun e => hk (e ▸ hg)
    simp [Shared.setGen, this]
  · obtain ⟨i, hi, rfl⟩ := Array.mem_iff_getElem.mp hy
    simp only [Shared.setGen, Array.setIfInBounds] at hi ⊢
    by_cases e : g < s.gens.size
    · simp only [e, dite_true] at hi ⊢
      rw [Array.getElem_set]
      split
      · exact hb
      · exact h _ (Array.getElem_mem ..)
    · simp only [e, dite_false] at hi ⊢
      exact h _ (Array.getElem_mem ..)

structure Mvd (wr : List Addr) (gn : List Nat) (s s' : Shared) : Prop where
  heap : ∀ b o, b ∉ wr → s.heap.get? b = some o → s'.heap.get? b = some o
  gens : GIn gn s.gens s'.gens
  drawn : s'.drawn = s.drawn
  os : s'.os = s.os
theorem Mvd.refl (wr : List Addr) (gn : List Nat) (s : Shared) : Mvd wr gn s s := ⟨fun _ _ _ e => e, .refl _ _, rfl, rfl⟩
theorem Mvd.trans {wr : List Addr} {gn : List Nat} {s s' s'' : Shared} (x : Mvd wr gn s s') (y : Mvd wr gn s' s'') : Mvd wr gn s s'' :=
  ⟨fun b o hb e => y.heap b o hb (x.heap b o hb e), x.gens.trans y.gens, y.drawn.trans x.drawn, y.os.trans x.os⟩
theorem Mvd.mono {wr wr' : List Addr} {gn gn' : List Nat} {s s' : Shared} (x : Mvd wr gn s s') (h : ∀ b ∈ wr, b ∈ wr') (hg : ∀ k ∈ gn, k ∈ gn') : Mvd wr' gn' s s' :=
  ⟨fun b o hb e => x.heap b o (fun q => hb (h b q)) e, x.gens.mono hg, x.drawn, x.os⟩

/-- what the state of an iterator stands on is left alone -/
structure Still (fp : List Addr) (gn : List Nat) (s s' : Shared) : Prop where
  heap : ∀ b ∈ fp, ∀ o, s.heap.get? b = some o → s'.heap.get? b = some o
  gens : ∀ k ∈ gn, s'.gens[k]? = s.gens[k]?
theorem Still.refl (fp : List Addr) (gn : List Nat) (s : Shared) : Still fp gn s s := ⟨fun _ _ _ e => e, fun _ _ => rfl⟩
theorem Still.trans {fp : List Addr} {gn : List Nat} {s s' s'' : Shared} (x : Still fp gn s s') (y : Still fp gn s' s'') : Still fp gn s s'' :=
  ⟨fun b hb o e => y.heap b hb o (x.heap b hb o e), fun k hk => (y.gens k hk).trans (x.gens k hk)⟩
theorem Still.mono {fp fp' : List Addr} {gn gn' : List Nat} {s s' : Shared} (x : Still fp' gn' s s') (h : ∀ b ∈ fp, b ∈ fp') (hg : ∀ k ∈ gn, k ∈ gn') : Still fp gn s s' :=
  ⟨fun b hb o e => x.heap b (h b hb) o e, fun k hk => x.gens k (hg k hk)⟩

/-- an iterator -/
structure It (prog : Program) (w : World) (A : Around) (I : Addr) (fp wr : List Addr) (gn : List Nat) (n : Nat) (P : Nat → Heap → Value → Heap → Prop) (St : Nat → Shared → Prop) : Prop where
  sub : ∀ b ∈ wr, b ∈ fp
  frame : ∀ i s s', St i s → Still fp gn s s' → St i s'
  live : ∀ i s, St i s → ∀ b ∈ fp, ∃ o, s.heap.get? b = some o
  item : ∀ i (s : Shared) (Q : Option Value → Shared → Prop) (E : Value → Shared → Prop), i < n → St i s → s.heap.NoLimit →
    (∀ v s', P i s.heap v s'.heap → St (i + 1) s' → Mvd wr gn s s' → Q (some v) s') → wpAny (model prog w) A (pyNext (.ref I)) Q E s
  done : ∀ (s : Shared) (Q : Option Value → Shared → Prop) (E : Value → Shared → Prop), St n s → s.heap.NoLimit → (∀ s', Mvd wr gn s s' → Q none s') → wpAny (model prog w) A (pyNext (.ref I)) Q E s

/-- how a generator ends: a generator expression, or a def with yield -/
def genEnds : Bool → Result
  | true => .ok .next
  | false => .ok (.ret .none)
section
variable {prog : Program} {w : World} {A : Around} {E : Value → Shared → Prop} {s : Shared}
theorem pyNext_gen_B {a : Addr} {g n : Nat} {gs : GenState} {b : Bool} {P : Nat → Shared → Shared → Prop} {Y : Protocol} {Q : Option Value → Shared → Prop} (hh : A.handled = none)
    (hl : s.heap.NoLimit) (hroom : A.depth < recursionLimit)
    (hg : s.heap.IsGen a g) (hgs : s.gens[g]? = some gs)
    (hgo : gs.Goes (model prog w) A.in1 (fun n s₀ r s₁ => r = genEnds b ∧ P n s₀ s₁) Y n (.send .none) (s.setGen g .running))
    (hY : ∀ v s₁ gs', gs'.bare = true → Y (n - 1) (s.setGen g .running) v s₁ (fun r' s'' => match n with
        | 0 => False
        | m + 1 => gs'.Goes (model prog w) A.in1 (fun n s₀ r s₁ => r = genEnds b ∧ P n s₀ s₁) Y m r' s'') → Q (some v) (s₁.setGen g gs'))
    (hP : ∀ s₁, P n (s.setGen g .running) s₁ → ∀ h', (∀ b o, s₁.heap.get? b = some o → h'.get? b = some o) → Q none { s₁.setGen g .finished with heap := h' }) :
    wpAny (model prog w) A (pyNext (.ref a)) Q E s := by
  unfold pyNext
  refine wpAny_bind (wpAny_attempt (wpAny_callSpecial?_slot (name := Str.ofString "__next__") hg.typeIs slot_gen_next
    (wpAny_call_entry slot_gen_next hg.typeIs entry_gen_next ?_ (args_gen_next _))))
  show wpAny _ A.in1 (Builtin.Generator.genWake (.ref a) (.send .none)) _ _ s
  unfold Builtin.Generator.genWake
  refine wpAny_bind (wpAny_holding (wpAny_genNumber hg (wpAny_bind (wpAny_genState hgs ?_))))
  cases gs with
  | running => exact hgo.elim
  | finished => exact hgo.elim
  | _ =>
    refine wpAny_bind (wpAny_roomToWake hl hroom ?_)
    show wpAny _ A.in1 (.resume g (.send .none) [] _) _ _ s
    refine wpAny_resumeQ hgs hgo (fun x s₁ hx => ?_) (fun v s₁ gs' hb hv => ?_)
    · obtain ⟨rfl, hp⟩ := hx
      have key : (End.ret (genEnds b)).result = .returned .none := by cases b <;> rfl
      rw [key]
      show wpAny _ A.in1 (newExc (.type "StopIteration") [] >>= _) _ _ _
      refine wpAny_bind ?_
      simp only [newExc, newTuple]
      refine wpAny_bind (wpAny_newObj_type ?_ (by size_fits))
      refine wpAny_bind (m := firstArgMember _ _) (wpAny_of_eq (a := Value.none) (by first | rfl | (simp only [firstArgMember]; rfl)) ?_)
      refine wpAny_newObj_type ?_ (by size_fits)
      simp only [raiseNew]
      refine wpAny_bind (wpAny_bind (wpAny_handled ?_))
      first | rw [show A.in1.handled = none from hh] | rw [hh]
      refine wpAny_throw ?_
      refine wpAny_bind (wpAny_isInstance (T := "StopIteration") (b := true) ⟨_, Heap.get?_push_size _ rfl, rfl⟩ isSubtype_stop ?_)
      exact wpAny_pure (hP s₁ hp _ fun b o hb => Heap.get?_push_of_some _ (Heap.get?_push_of_some _ hb))
    · exact wpAny_pure ⟨v, rfl, wpAny_pure (hY v s₁ gs' hb hv)⟩
end

/-- what a generator hands out: its (n - 1 - m)-th item, and the right to go on -/
def genProtoI (fp wr : List Addr) (gn : List Nat) (n : Nat) (P : Nat → Heap → Value → Heap → Prop) : Protocol := fun m s₀ v s kap =>
  P (n - 1 - m) s₀.heap v s.heap ∧ (∀ b ∈ fp, ∃ o, s.heap.get? b = some o) ∧ Mvd wr gn s₀ s ∧ ∀ s'' : Shared, Still fp gn s s'' → s''.heap.NoLimit → kap (.send .none) s''
def genEndI (b : Bool) (wr : List Addr) (gn : List Nat) : GenEnd := fun k s₀ r s₁ => r = genEnds b ∧ (k = 0 ∧ Mvd wr gn s₀ s₁)
def GenAtI (prog : Program) (w : World) (A : Around) (b : Bool) (a : Addr) (g : Nat) (fp wr : List Addr) (gn : List Nat) (n : Nat) (P : Nat → Heap → Value → Heap → Prop) (j : Nat) (s : Shared) : Prop :=
  s.heap.IsGen a g ∧ (∀ b ∈ fp, ∃ o, s.heap.get? b = some o) ∧ ∃ gs, s.gens[g]? = some gs ∧ ∀ s'' : Shared, Still fp gn s s'' → s''.heap.NoLimit → gs.Goes (model prog w) A.in1 (genEndI b wr gn) (genProtoI fp wr gn n P) (n - j) (.send .none) s''

theorem noLimit_at {wr : List Addr} {h h' : Heap} (hcs : cStatics ∉ wr) (x : h.NoLimit) (hk : ∀ b o, b ∉ wr → h.get? b = some o → h'.get? b = some o) : h'.NoLimit :=
  let ⟨mc, hns, hnn⟩ := x; ⟨mc, hns.at' fun o e => hk _ o hcs e, hnn⟩
theorem setGen_heap (s : Shared) (g : Nat) (x : GenState) : (s.setGen g x).heap = s.heap := rfl
theorem setGen_ne {s : Shared} {g k : Nat} {x : GenState} (h : k ≠ g) : (s.setGen g x).gens[k]? = s.gens[k]? := by
  have h' : g ≠ k := fun e => h e.symm
  simp [Shared.setGen, h']

theorem It.gen {prog : Program} {w : World} {A : Around} {b : Bool} {a : Addr} {g : Nat} {fp wr : List Addr} {gn : List Nat} {n : Nat} {P : Nat → Heap → Value → Heap → Prop}
    (hh : A.handled = none) (hroom : A.depth < recursionLimit) (ha : a ∉ fp) (hg : g ∉ gn) (hsub : ∀ b ∈ wr, b ∈ fp) (hcs : cStatics ∉ wr) :
    It prog w A a (a :: fp) wr (g :: gn) n P (GenAtI prog w A b a g fp wr gn n P) where
  sub := fun c hc => List.mem_cons_of_mem _ (hsub c hc)
  frame := fun j s s' st hk => ⟨let ⟨o, nm, qn, ho, r⟩ := st.1; ⟨o, nm, qn, hk.heap a (List.mem_cons_self ..) o ho, r⟩,
    fun b hb => let ⟨o, ho⟩ := st.2.1 b hb; ⟨o, hk.heap b (List.mem_cons_of_mem _ hb) o ho⟩, let ⟨gs, hgs, hgo⟩ := st.2.2; ⟨gs, (hk.gens g (List.mem_cons_self ..)).trans hgs, fun s'' hal => hgo s'' ((hk.mono (fun _ h => List.mem_cons_of_mem _ h) (fun _ h => List.mem_cons_of_mem _ h)).trans hal)⟩⟩
  live := fun j s st b hb => by
    rcases List.mem_cons.mp hb with rfl | hb
    · obtain ⟨o, _, _, ho, _⟩ := st.1; exact ⟨o, ho⟩
    · exact st.2.1 b hb
  item := fun j s Q E hj st hl hQ => by
    obtain ⟨hga, hlv, gs, hgs, hgo⟩ := st
    have haw : a ∉ wr := fun h => ha (hsub a h)
    obtain ⟨m, hm⟩ : ∃ m, n - j = m + 1 := ⟨n - j - 1, by omega⟩
    rw [hm] at hgo
    refine pyNext_gen_B (P := fun n s₀ s₁ => n = 0 ∧ Mvd wr gn s₀ s₁) hh hl hroom hga hgs (hgo _ ⟨fun _ _ _ e => e, fun k hk => setGen_ne fun e => hg (e ▸ hk)⟩ hl) (fun v s₁ gs' hb hv => ?_) (fun s₁ hp h' hk => ?_)
    · obtain ⟨hP, hlv', hmv, hkap⟩ := hv
      have hidx : n - 1 - (m + 1 - 1) = j := by omega
      rw [hidx] at hP
      have hgs1 : s₁.gens[g]? = some .running := (hmv.gens.but g hg).trans (setGen_self hgs)
      refine hQ v _ hP ⟨let ⟨o, nm, qn, ho, r⟩ := hga; ⟨o, nm, qn, hmv.heap a o haw ho, r⟩, hlv', gs', setGen_self hgs1, fun s'' hal => ?_⟩
        ⟨hmv.heap, ((GIn.set (List.mem_cons_self ..) rfl).trans (hmv.gens.mono fun _ h => List.mem_cons_of_mem _ h)).trans (GIn.set (List.mem_cons_self ..) hb), hmv.drawn, hmv.os⟩
      have e : n - (j + 1) = m := by omega
      rw [e]
      exact hkap s'' ⟨hal.heap, fun k hk => (hal.gens k hk).trans (setGen_ne fun e => hg (e ▸ hk))⟩
    · exact absurd hp.1 (Nat.succ_ne_zero m)
  done := fun s Q E st hl hQ => by
    obtain ⟨hga, hlv, gs, hgs, hgo⟩ := st
    rw [Nat.sub_self] at hgo
    refine pyNext_gen_B (P := fun n s₀ s₁ => n = 0 ∧ Mvd wr gn s₀ s₁) hh hl hroom hga hgs (hgo _ ⟨fun _ _ _ e => e, fun k hk => setGen_ne fun e => hg (e ▸ hk)⟩ hl) (fun v s₁ gs' hb hv => ?_) (fun s₁ hp h' hk => ?_)
    · obtain ⟨_, _, hmv, hkap⟩ := hv
      exact False.elim (hkap s₁ (.refl _ _ _) (noLimit_at hcs hl hmv.heap))
    · obtain ⟨_, hmv⟩ := hp
      exact hQ _ ⟨fun c o hc e => hk c o (hmv.heap c o hc e), ((GIn.set (List.mem_cons_self ..) rfl).trans (hmv.gens.mono fun _ h => List.mem_cons_of_mem _ h)).trans (GIn.set (List.mem_cons_self ..) rfl), hmv.drawn, hmv.os⟩
end Mine
end
section
open PySem PySem.W PySem.Calls PyProof.Rows
set_option maxRecDepth 100000
namespace Mine
/-- the item is a tuple of two ints: an old one of the source's own, or a new one -/
def EdgeP (fp wr : List Addr) (ed : Nat → Int × Int) : Nat → Heap → Value → Heap → Prop := fun i h v h' =>
  ∃ t tu tv dd ep sl, v = .ref t ∧ h'.get? t = some (⟨.type "tuple", dd, .seq #[.int (ed i).1 tu, .int (ed i).2 tv] ep, sl⟩ : Obj) ∧ (t ∈ fp ∨ h.get? t = none) ∧ t ∉ wr
/-- an iterator that hands out pairs of ints, each in a tuple of its own -/
abbrev EdgeIt (prog : Program) (w : World) (A : Around) (I : Addr) (fp wr : List Addr) (gn : List Nat) (n : Nat) (ed : Nat → Int × Int) (St : Nat → Shared → Prop) : Prop := It prog w A I fp wr gn n (EdgeP fp wr ed) St

section
variable {prog : Program} {w : World} {A : Around} {s : Shared} {env : Env} {h₀ : Heap}
def TurnEnd (h₀ : Heap) (L : Addr) (wr : List Addr) (own : List (Addr × Obj)) (Jn : (Str → Option Value) → List (Addr × Obj) → Prop) (s₁ : Shared) (f : Flow) (s₂ : Shared) : Prop :=
  f = .next ∧ ∃ h' tk m₂ news₂, s₂ = { s₁ with heap := h', toks := tk } ∧ Fr h₀ L h' m₂ ∧ News h₀ L h' (news₂ ++ own) ∧ (∀ p ∈ news₂, p.1 ∉ wr) ∧ Jn m₂ news₂

theorem codeAny_forLoop_E {R : Result → Shared → Prop} {x : Str} {px : Pos} {body : List Stmt} {I : Addr} {fp wr : List Addr} {gn : List Nat} {n : Nat} {ed : Nat → Int × Int} {St : Nat → Shared → Prop} {m : Str → Option Value}
    {news : List (Addr × Obj)} (W : EdgeIt prog w A I fp wr gn n ed St) (hx : env.kindOf x = some .local)
    (hp : (env.scope.kind == .class || (env.scope.kind == .module && env.locals != env.globals)) = false)
    (hNL : h₀.NoLimit) (hLf : env.locals ∉ fp) (hwr : ∀ b ∈ wr, h₀.get? b = none) (hfp : ∀ b ∈ fp, h₀.get? b = none) (hnw : ∀ p ∈ news, p.1 ∉ wr)
    (hst : St 0 s) (F : Fr h₀ env.locals s.heap m) (N : News h₀ env.locals s.heap news)
    (J : Nat → (Str → Option Value) → List (Addr × Obj) → Prop) (h0 : J 0 m news)
    (step : ∀ i t tu tv dd ep sl m₁ news₁ (s₁ : Shared) own, i < n → J i m₁ news₁ → (∀ p ∈ news₁, p.1 ∉ wr) → (t, (⟨.type "tuple", dd, .seq #[.int (ed i).1 tu, .int (ed i).2 tv] ep, sl⟩ : Obj)) ∈ own →
      Fr h₀ env.locals s₁.heap (fun y => if y = x then some (.ref t) else m₁ y) → News h₀ env.locals s₁.heap (news₁ ++ own) → (∀ b ∈ fp, ∃ o, (b, o) ∈ own) → (∀ p ∈ own, p.1 ∈ fp ∨ ∀ q ∈ news₁, q.1 ≠ p.1) →
      wpAny (model prog w) A (execs body env) (TurnEnd h₀ env.locals wr own (J (i + 1)) s₁) (notedBy (model prog w) A env fun e s' => R (.error e) s') s₁)
    (hlive : ∀ i s, St i s → ∀ b ∈ fp, ∃ o, s.heap.get? b = some o)
    (hR : ∀ s' m' news', GIn gn s.gens s'.gens → s'.drawn = s.drawn → s'.os = s.os → Fr h₀ env.locals s'.heap m' → News h₀ env.locals s'.heap news' → (∀ p ∈ news', p.1 ∉ wr) → J n m' news' → R (.ok .next) s') :
    codeAny (model prog w) A (.forLoop (.Name x px) (.ref I) body [] env) R s := by
  have hLw : env.locals ∉ wr := fun h => hLf (W.sub _ h)
  have old : ∀ b o, h₀.get? b = some o → b ∉ wr := fun b o e hb => by rw [hwr b hb] at e; cases e
  refine codeAny_forLoop
    (fun k s' => ∃ m' news' i, St i s' ∧ GIn gn s.gens s'.gens ∧ s'.drawn = s.drawn ∧ s'.os = s.os ∧ Fr h₀ env.locals s'.heap m' ∧ News h₀ env.locals s'.heap news' ∧ (∀ p ∈ news', p.1 ∉ wr) ∧ J i m' news' ∧ i ≤ n ∧ k = n + 1 - i) ?_ (n + 1)
    ⟨m, news, 0, hst, .refl _ _, rfl, rfl, F, N, hnw, h0, Nat.zero_le _, rfl⟩
  rintro k s' ⟨m', news', i, hst', hG, hdr, hos, F', N', hnw', hJ, hi, rfl⟩
  have next : ∀ h₁ : Heap, (∀ b o, b ∉ wr → s'.heap.get? b = some o → h₁.get? b = some o) → Fr h₀ env.locals h₁ m' ∧ News h₀ env.locals h₁ news' := fun h₁ hk₁ =>
    ⟨⟨F'.ns.at' fun o e => hk₁ _ o hLw e, fun b o e => hk₁ b o (old b o e) (F'.keep b o e), F'.above⟩, fun p hp => ⟨hk₁ _ _ (hnw' p hp) (N' p hp).1, (N' p hp).2⟩⟩
  by_cases hlt : i < n
  · refine W.item i _ _ _ hlt hst' (hNL.keeps F'.keep) fun v s₁ hPv hst₁ hm₁ => ?_
    obtain ⟨t, tu, tv, dd, ep, sl, rfl, htup, htn, htw⟩ := hPv
    obtain ⟨F₁, N₁⟩ := next s₁.heap fun b o hb e => hm₁.heap b o hb e
    refine wpAny_assign_Name (wpAny_storeName_local hx F₁.ns (fun h₂ hn₂ hs₂ => ?_) hp)
    have F₂ := F₁.set hn₂ hs₂
    have htL : t ≠ env.locals := by
      intro e
      rcases htn with h | h
      · exact hLf (e ▸ h)
      · obtain ⟨oL, _, _, hL, _⟩ := F'.ns
        rw [e, hL] at h; cases h
    have htb : h₀.get? t = none := by
      rcases htn with h | h
      · exact hfp t h
      · cases q : h₀.get? t with
        | none => rfl
        | some o => rw [F'.keep t o q] at h; cases h
    have Nown : News h₀ env.locals h₂ (ownOf h₀ (t :: fp) h₂) := news_ownOf (by
      intro hm
      rcases List.mem_cons.mp hm with h | h
      · exact htL h.symm
      · exact hLf h)
    have ht₂ : h₂.get? t = _ := (hs₂.2 t htL).trans htup
    have hst₂ : St (i + 1) { s₁ with heap := h₂, toks := s₁.toks + 1 } := W.frame _ _ _ hst₁ ⟨fun b hb o e => (hs₂.2 b fun q => hLf (q ▸ hb)).trans e, fun _ _ => rfl⟩
    refine wpAny_mono (step i t tu tv dd ep sl m' news' _ (ownOf h₀ (t :: fp) h₂) hlt hJ hnw' (mem_ownOf (.head _) htb ht₂) F₂ (fun p hp => (List.mem_append.mp hp).elim (fun h => N₁.set hs₂ p h) fun h => Nown p h) (fun b hb => ?_) (fun p hp => ?_)) (fun f s₃ h₃ => ?_) fun _ _ e => e
    · obtain ⟨o, ho⟩ := hlive _ _ hst₂ b hb
      exact ⟨o, mem_ownOf (.tail _ hb) (hfp b hb) ho⟩
    · rcases List.mem_cons.mp (ownOf_sub p hp) with h | h
      · rcases htn with h' | h'
        · exact .inl (h ▸ h')
        · refine .inr fun q hq e => ?_
          have := (N' q hq).1
          rw [e, h, h'] at this; cases this
      · exact .inl h
    obtain ⟨rfl, h₃', tk₃, m₂, news₂, rfl, F₃, N₃, ha₃, hJ₃⟩ := h₃
    have hst₃ : St (i + 1) { s₁ with heap := h₃', toks := tk₃ } := W.frame _ _ _ hst₂ ⟨fun b hb o e => (N₃ _ (List.mem_append_right _ (mem_ownOf (List.mem_cons_of_mem _ hb) (hfp b hb) e))).1, fun _ _ => rfl⟩
    exact ⟨n + 1 - (i + 1), by omega, m₂, news₂, i + 1, hst₃, hG.trans hm₁.gens, hm₁.drawn.trans hdr, hm₁.os.trans hos, F₃, fun p hp => N₃ p (List.mem_append_left _ hp), ha₃, hJ₃, hlt, rfl⟩
  · have hin : i = n := by omega
    subst hin
    refine W.done _ _ _ hst' (hNL.keeps F'.keep) fun s₁ hm₁ => wpAny_execs_nil ?_
    obtain ⟨F₁, N₁⟩ := next s₁.heap fun b o hb e => hm₁.heap b o hb e
    exact hR s₁ m' news' (hG.trans hm₁.gens) (hm₁.drawn.trans hdr) (hm₁.os.trans hos) F₁ N₁ hnw' hJ

/-- what stands behind a for's iter: the loop's data -/
def LoopAtE (prog : Program) (w : World) (A : Around) (h₀ : Heap) (env : Env) (x : Str) (body : List Stmt) (Q : Flow → Shared → Prop) (E : Value → Shared → Prop) (it : Value) (s₂ : Shared) : Prop :=
  ∃ (I : Addr) (fp wr : List Addr) (gn : List Nat) (n : Nat) (ed : Nat → Int × Int) (St : Nat → Shared → Prop) (m : Str → Option Value) (news : List (Addr × Obj)) (J : Nat → (Str → Option Value) → List (Addr × Obj) → Prop),
    it = .ref I ∧ h₀.NoLimit ∧ EdgeIt prog w A I fp wr gn n ed St ∧ env.locals ∉ fp ∧ (∀ b ∈ fp, h₀.get? b = none) ∧ (∀ p ∈ news, p.1 ∉ wr) ∧ (∀ i s, St i s → ∀ b ∈ fp, ∃ o, s.heap.get? b = some o) ∧ St 0 s₂ ∧ Fr h₀ env.locals s₂.heap m ∧ News h₀ env.locals s₂.heap news ∧ J 0 m news ∧
    (∀ i t tu tv dd ep sl m₁ news₁ (s₁ : Shared) own, i < n → J i m₁ news₁ → (∀ p ∈ news₁, p.1 ∉ wr) → (t, (⟨.type "tuple", dd, .seq #[.int (ed i).1 tu, .int (ed i).2 tv] ep, sl⟩ : Obj)) ∈ own →
      Fr h₀ env.locals s₁.heap (fun y => if y = x then some (.ref t) else m₁ y) → News h₀ env.locals s₁.heap (news₁ ++ own) → (∀ b ∈ fp, ∃ o, (b, o) ∈ own) → (∀ p ∈ own, p.1 ∈ fp ∨ ∀ q ∈ news₁, q.1 ≠ p.1) →
      wpAny (model prog w) A (execs body env) (TurnEnd h₀ env.locals wr own (J (i + 1)) s₁) E s₁) ∧
    ∀ s' m' news', GIn gn s₂.gens s'.gens → s'.drawn = s₂.drawn → s'.os = s₂.os → Fr h₀ env.locals s'.heap m' → News h₀ env.locals s'.heap news' → (∀ p ∈ news', p.1 ∉ wr) → J n m' news' → Q .next s'

theorem For_E {E : Value → Shared → Prop} {Q : Flow → Shared → Prop} {x : Str} {px pos : Pos} {iter : Expr} {body : List Stmt} (h₀ : Heap) (hx : env.kindOf x = some .local)
    (hp : (env.scope.kind == .class || (env.scope.kind == .module && env.locals != env.globals)) = false)
    (h : wpAny (model prog w) A (eval iter env) (fun xv s₁ => wpAny (model prog w) A (pyIter xv) (fun it s₂ => LoopAtE prog w A h₀ env x body Q E it s₂) E s₁) E s)
    (hs : ∀ x, foldedSetIterable iter env x = pure x := by intro _; rfl)
    (hE : PassesOwn (model prog w) A env E := by passes_own) :
    wpAny (model prog w) A (exec (.For (.Name x px) iter body [] pos) env) Q E s := by
  refine wpAny_For (wpAny_mono h (fun xv s₁ h₁ => wpAny_mono h₁ (fun it s₂ h₂ => ?_) fun _ _ e => e) fun _ _ e => e) hs
  obtain ⟨I, fp, wr, gn, n, ed, St, m, news, J, rfl, hNL, W, hLf, hfp, hnw, hlive, hst, F, N, h0, step, hQ⟩ := h₂
  exact codeAny_forLoop_E (R := fun r s' => match r with | .ok f => Q f s' | .error e => cameBackBy (model prog w) A env E e s') W hx hp hNL hLf (fun b hb => hfp b (W.sub b hb)) hfp hnw hst F N J h0 (by intros; exact wpAny_passesOwn hE (by apply step <;> assumption)) hlive hQ
end
end Mine
end
section
open PySem PySem.W PySem.Calls PyProof.Rows
namespace Mine
section
variable {K : Type} [DecidableEq K]
theorem va_nil (k : K) : valueAt ([] : List (K × Value)) k = none := rfl
theorem va_cons (p : K × Value) (kvs : List (K × Value)) (k : K) : valueAt (p :: kvs) k = if p.1 = k then some p.2 else valueAt kvs k := by
  unfold valueAt
  rw [List.find?_cons]
  by_cases h : p.1 = k <;> simp [h]
theorem va_append_self (kvs : List (K × Value)) {k : K} (v : Value) (h : valueAt kvs k = none) : valueAt (kvs ++ [(k, v)]) k = some v := by
  induction kvs with
  | nil => simp [va_cons]
  | cons p r ih =>
    rw [va_cons] at h
    rw [List.cons_append, va_cons]
    by_cases hp : p.1 = k
    · rw [if_pos hp] at h; cases h
    · rw [if_neg hp] at h ⊢
      exact ih h
theorem va_append_ne (kvs : List (K × Value)) {k k' : K} (v : Value) (h : k' ≠ k) : valueAt (kvs ++ [(k, v)]) k' = valueAt kvs k' := by
  induction kvs with
  | nil => simp [va_cons, va_nil, Ne.symm h]
  | cons p r ih => rw [List.cons_append, va_cons, va_cons, ih]
theorem va_none_iff (kvs : List (K × Value)) (k : K) : valueAt kvs k = none ↔ k ∉ kvs.map (·.1) := by
  induction kvs with
  | nil => simp [va_nil]
  | cons p r ih =>
    rw [va_cons, List.map_cons, List.mem_cons]
    by_cases hp : p.1 = k
    · simp [hp]
    · simp [hp, ih, Ne.symm hp]
theorem va_isSome (kvs : List (K × Value)) (k : K) : (valueAt kvs k).isSome = decide (k ∈ kvs.map (·.1)) := by
  have := va_none_iff kvs k
  cases h : valueAt kvs k with
  | none => simp [this.mp h]
  | some v =>
    have : k ∈ kvs.map (·.1) := by
      by_cases hm : k ∈ kvs.map (·.1)
      · exact hm
      · rw [this.mpr hm] at h; cases h
    simp [this]
theorem st_new (kvs : List (K × Value)) {k : K} (v : Value) (h : valueAt kvs k = none) : stored kvs k v = kvs ++ [(k, v)] := by
  unfold stored
  rw [if_neg]
  intro ha
  obtain ⟨p, hp, e⟩ := List.any_eq_true.mp ha
  exact (va_none_iff kvs k).mp h (List.mem_map.mpr ⟨p, hp, of_decide_eq_true e⟩)
theorem va_stored_new_self (kvs : List (K × Value)) {k : K} (v : Value) (h : valueAt kvs k = none) : valueAt (stored kvs k v) k = some v := by
  rw [st_new kvs v h]; exact va_append_self kvs v h
theorem va_stored_new_ne (kvs : List (K × Value)) {k k' : K} (v : Value) (h : valueAt kvs k = none) (hne : k' ≠ k) : valueAt (stored kvs k v) k' = valueAt kvs k' := by
  rw [st_new kvs v h]; exact va_append_ne kvs v hne
theorem va_get_ne {kvs : List (K × Value)} {k k' : K} {v x : Value} (h : valueAt kvs k = none) (hne : k' ≠ k) (hx : valueAt kvs k' = some x) : valueAt (stored kvs k v) k' = some x := (va_stored_new_ne kvs v h hne).trans hx
theorem len_stored_new (kvs : List (K × Value)) {k : K} (v : Value) (h : valueAt kvs k = none) : (stored kvs k v).length = kvs.length + 1 := by
  rw [st_new kvs v h]; simp
end
/-- the inner dicts of a graph's adjacency: objects, the outer dict's pairs, the plain reading -/
inductive Inn {prog : Program} (w : World) : List (Addr × Obj) → List (Int × Value) → List (Int × List Int) → Prop
  | nil : Inn w [] [] []
  | cons {a : Addr} {o : Obj} {k : Int} {kvs : List (Int × Value)} {tl : List (Addr × Obj)} {ak : List (Int × Value)} {adj : List (Int × List Int)} :
      o.IsDictOf (PySem.intKind prog w) kvs → (a == sysModules) = false → Inn w tl ak adj → Inn w ((a, o) :: tl) ((k, .ref a) :: ak) ((k, kvs.map (·.1)) :: adj)
def addN (k : Int) (adj : List (Int × List Int)) : List (Int × List Int) := adj ++ [(k, [])]
def addNb (u v : Int) (adj : List (Int × List Int)) : List (Int × List Int) := adj.map fun p => if p.1 = u then (p.1, p.2 ++ [v]) else p
def addE (adj : List (Int × List Int)) (e : Int × Int) : List (Int × List Int) :=
  let a1 := if e.1 ∈ adj.map (·.1) then adj else addN e.1 adj
  let a2 := if e.2 ∈ a1.map (·.1) then a1 else addN e.2 a1
  addNb e.2 e.1 (addNb e.1 e.2 a2)
theorem addN_keys (k adj) : (addN k adj).map (·.1) = adj.map (·.1) ++ [k] := by simp [addN]
theorem addNb_keys (u v adj) : (addNb u v adj).map (·.1) = adj.map (·.1) := by
  induction adj with
  | nil => rfl
  | cons p r ih =>
    simp only [addNb, List.map_cons] at ih ⊢
    rw [ih]
    by_cases h : p.1 = u <;> simp [h]
theorem Inn.keys {prog : Program} {w : World} {tl ak adj} (h : Inn (prog := prog) w tl ak adj) : ak.map (·.1) = adj.map (·.1) := by
  induction h with
  | nil => rfl
  | cons _ _ _ ih => simp [ih]
theorem Inn.append {prog : Program} {w : World} {tl ak adj tl' ak' adj'} (h : Inn (prog := prog) w tl ak adj) (h' : Inn (prog := prog) w tl' ak' adj') : Inn (prog := prog) w (tl ++ tl') (ak ++ ak') (adj ++ adj') := by
  induction h with
  | nil => exact h'
  | cons a b _ ih => exact .cons a b ih
/-- the entry of a node that is there: its dict apart -/
theorem Inn.split {prog : Program} {w : World} {tl ak adj} (h : Inn (prog := prog) w tl ak adj) {u : Int} (hu : u ∈ adj.map (·.1)) (hn : (adj.map (·.1)).Nodup) :
    ∃ pre post a o kvs ak1 ak2 adj1 adj2, tl = pre ++ (a, o) :: post ∧ ak = ak1 ++ (u, .ref a) :: ak2 ∧ adj = adj1 ++ (u, kvs.map (·.1)) :: adj2 ∧ o.IsDictOf (PySem.intKind prog w) kvs ∧ (a == sysModules) = false ∧
      Inn (prog := prog) w pre ak1 adj1 ∧ Inn (prog := prog) w post ak2 adj2 ∧ valueAt ak u = some (.ref a) ∧ u ∉ adj1.map (·.1) ∧ u ∉ adj2.map (·.1) := by
  induction h with
  | nil => cases hu
  | @cons a o k kvs tl ak adj hd lo hr ih =>
    rw [List.map_cons, List.nodup_cons] at hn
    by_cases e : k = u
    · subst e
      exact ⟨[], tl, a, o, kvs, [], ak, [], adj, rfl, rfl, rfl, hd, lo, .nil, hr, by rw [va_cons, if_pos rfl], by simp, hn.1⟩
    · have hu' : u ∈ adj.map (·.1) := by
        rcases List.mem_cons.mp hu with h | h
        · exact absurd h.symm e
        · exact h
      obtain ⟨pre, post, a', o', kvs', ak1, ak2, adj1, adj2, e1, e2, e3, h1, h2, h3, h4, h5, h6, h7⟩ := ih hu' hn.2
      refine ⟨(a, o) :: pre, post, a', o', kvs', (k, .ref a) :: ak1, ak2, (k, kvs.map (·.1)) :: adj1, adj2, by rw [e1]; rfl, by rw [e2]; rfl, by rw [e3]; rfl, h1, h2, .cons hd lo h3, h4, ?_, ?_, h7⟩
      · rw [va_cons, if_neg e]; exact h5
      · rw [List.map_cons, List.mem_cons]; exact fun h => h.elim (fun q => e q.symm) h6
end Mine
end
section
open PySem PySem.W PySem.Calls PyProof.Rows
namespace Mine
theorem addNb_skip {u v : Int} {l : List (Int × List Int)} (h : u ∉ l.map (·.1)) : addNb u v l = l := by
  induction l with
  | nil => rfl
  | cons p r ih =>
    rw [List.map_cons, List.mem_cons, not_or] at h
    unfold addNb at ih ⊢
    rw [List.map_cons, ih h.2, if_neg (fun e => h.1 e.symm)]
theorem addNb_append (u v : Int) (l l' : List (Int × List Int)) : addNb u v (l ++ l') = addNb u v l ++ addNb u v l' := by simp [addNb]
theorem addNb_cons_self (u v : Int) (ns : List Int) (l : List (Int × List Int)) : addNb u v ((u, ns) :: l) = (u, ns ++ [v]) :: addNb u v l := by simp [addNb]
theorem addNb_cons_ne {u k : Int} (v : Int) (ns : List Int) (l : List (Int × List Int)) (h : k ≠ u) : addNb u v ((k, ns) :: l) = (k, ns) :: addNb u v l := by simp [addNb, h]
theorem addE_B {u v : Int} {ns : List Int} {a1 a2 : List (Int × List Int)} (hne : u ≠ v) (hv : v ∉ (a1 ++ (u, ns) :: a2).map (·.1)) (h1 : u ∉ a1.map (·.1)) (h2 : u ∉ a2.map (·.1)) :
    addE (a1 ++ (u, ns) :: a2) (u, v) = (a1 ++ (u, ns ++ [v]) :: a2) ++ [(v, [u])] := by
  have hu : u ∈ (a1 ++ (u, ns) :: a2).map (·.1) := by simp
  simp only [addE, if_pos hu, if_neg hv, addN]
  have e1 : addNb u v (a1 ++ (u, ns) :: a2 ++ [(v, [])]) = a1 ++ (u, ns ++ [v]) :: (a2 ++ [(v, [])]) := by
    rw [List.append_assoc, addNb_append, addNb_skip h1, List.cons_append, addNb_cons_self, addNb_append, addNb_skip h2, addNb_cons_ne _ _ _ (Ne.symm hne)]
    rfl
  rw [e1]
  simp only [List.map_append, List.map_cons, List.mem_append, List.mem_cons, not_or] at hv
  rw [addNb_append, addNb_skip hv.1, addNb_cons_ne _ _ _ hne, addNb_append, addNb_skip hv.2.2, addNb_cons_self]
  simp [addNb]
theorem addE_A {u v : Int} {a : List (Int × List Int)} (hne : u ≠ v) (hu : u ∉ a.map (·.1)) (hv : v ∉ a.map (·.1)) :
    addE a (u, v) = a ++ [(u, [v]), (v, [u])] := by
  have hv' : v ∉ (a ++ [(u, ([] : List Int))]).map (·.1) := by
    rw [List.map_append, List.mem_append, not_or]
    exact ⟨hv, by simp [Ne.symm hne]⟩
  simp only [addE, if_neg hu, addN, if_neg hv']
  rw [List.append_assoc, addNb_append, addNb_skip hu, List.cons_append, addNb_cons_self, List.nil_append, List.nil_append, addNb_cons_ne _ _ _ (Ne.symm hne)]
  rw [show (addNb u v [] : List (Int × List Int)) = [] from rfl, addNb_append, addNb_skip hv, addNb_cons_ne _ _ _ hne, addNb_cons_self]
  simp [addNb]
def Closed (adj : List (Int × List Int)) : Prop := ∀ p ∈ adj, ∀ x ∈ p.2, x ∈ adj.map (·.1)
theorem closed_B {u v : Int} {ns : List Int} {a1 a2 : List (Int × List Int)} (h : Closed (a1 ++ (u, ns) :: a2)) : Closed ((a1 ++ (u, ns ++ [v]) :: a2) ++ [(v, [u])]) := by
  intro p hp x hx
  have key : ∀ y, y ∈ (a1 ++ (u, ns) :: a2).map (·.1) → y ∈ ((a1 ++ (u, ns ++ [v]) :: a2) ++ [(v, [u])]).map (·.1) := by
    intro y hy
    simp only [List.map_append, List.map_cons, List.mem_append, List.mem_cons] at hy ⊢
    rcases hy with h | h | h
    · exact .inl (.inl h)
    · exact .inl (.inr (.inl h))
    · exact .inl (.inr (.inr h))
  rcases List.mem_append.mp hp with hp | hp
  · rcases List.mem_append.mp hp with hp | hp
    · exact key x (h p (by simp [hp]) x hx)
    · rcases List.mem_cons.mp hp with rfl | hp
      · rcases List.mem_append.mp hx with hx | hx
        · exact key x (h (u, ns) (by simp) x hx)
        · rw [List.mem_singleton.mp hx]; simp
      · exact key x (h p (by simp [hp]) x hx)
  · rw [List.mem_singleton.mp hp] at hx
    rw [List.mem_singleton.mp hx]; simp
theorem closed_A {u v : Int} {a : List (Int × List Int)} (h : Closed a) : Closed (a ++ [(u, [v]), (v, [u])]) := by
  intro p hp x hx
  rcases List.mem_append.mp hp with hp | hp
  · have := h p hp x hx
    rw [List.map_append]
    exact List.mem_append_left _ this
  · simp only [List.mem_cons, List.not_mem_nil, or_false] at hp
    rcases hp with rfl | rfl <;> · simp only [List.mem_cons, List.not_mem_nil, or_false] at hx; subst hx; simp
theorem closed_not {u v : Int} {ns : List Int} {a : List (Int × List Int)} (h : Closed a) (hm : (u, ns) ∈ a) (hv : v ∉ a.map (·.1)) : v ∉ ns := fun hx => hv (h _ hm v hx)
theorem addE_len (a : List (Int × List Int)) (e : Int × Int) : (addE a e).length ≤ a.length + 2 := by
  simp only [addE, addNb, List.length_map]
  split <;> split <;> simp [addN] <;> omega
theorem foldE_len (ed : Nat → Int × Int) (a : List (Int × List Int)) : ∀ n, (((List.range n).map ed).foldl addE a).length ≤ a.length + 2 * n := by
  intro n
  induction n with
  | zero => simp
  | succ n ih =>
    rw [List.range_succ, List.map_append, List.foldl_append]
    have := addE_len (((List.range n).map ed).foldl addE a) (ed n)
    simp only [List.map_cons, List.map_nil, List.foldl_cons, List.foldl_nil]
    omega
theorem foldE_succ (ed : Nat → Int × Int) (a : List (Int × List Int)) (n : Nat) : ((List.range (n + 1)).map ed).foldl addE a = addE (((List.range n).map ed).foldl addE a) (ed n) := by
  rw [List.range_succ, List.map_append, List.foldl_append]; rfl
def lastNames : List Str := [Str.ofString "e", Str.ofString "ne", Str.ofString "u", Str.ofString "v", Str.ofString "dd", Str.ofString "datadict"]
theorem names_ne {z : Str} (h : lastNames.contains z = false) : z ≠ Str.ofString "e" ∧ z ≠ Str.ofString "ne" ∧ z ≠ Str.ofString "u" ∧ z ≠ Str.ofString "v" ∧ z ≠ Str.ofString "dd" ∧ z ≠ Str.ofString "datadict" := by
  simp only [lastNames, List.contains_cons, List.contains_nil, Bool.or_false, Bool.or_eq_false_iff, beq_eq_false_iff_ne] at h
  exact h
theorem allLt_mem {d : Addr} : ∀ {l : List (Addr × Obj)}, AllLt d l → ∀ p ∈ l, p.1 < d
  | [], _, _, hp => (nomatch hp)
  | q :: r, h, p, hp => by
    rcases List.mem_cons.mp hp with rfl | hp
    · exact h.1
    · exact allLt_mem h.2 p hp
theorem news_sub {h₀ h : Heap} {L : Addr} {l l' : List (Addr × Obj)} (N : News h₀ L h l) (hs : ∀ p ∈ l', p ∈ l) : News h₀ L h l' := fun p hp => N p (hs p hp)
theorem fr_map {h₀ h : Heap} {L : Addr} {m : Str → Option Value} (_F : Fr h₀ L h m) : ∃ M, M = m := ⟨m, rfl⟩
theorem turn_fr {h₀ h : Heap} {L t : Addr} {m₁ m₀ : Str → Option Value} (hm : ∀ z, lastNames.contains z = false → m₁ z = m₀ z) (F : Fr h₀ L h (fun y => if y = Str.ofString "e" then some (.ref t) else m₁ y)) :
    Fr h₀ L h (fun y => if y = Str.ofString "e" then some (.ref t) else if lastNames.contains y = true then m₁ y else m₀ y) := by
  have e : (fun y => if y = Str.ofString "e" then some (Value.ref t) else m₁ y) = fun y => if y = Str.ofString "e" then some (.ref t) else if lastNames.contains y = true then m₁ y else m₀ y := by
    funext y
    by_cases h1 : y = Str.ofString "e"
    · rw [if_pos h1, if_pos h1]
    · rw [if_neg h1, if_neg h1]
      cases h2 : lastNames.contains y with
      | true => rw [if_pos rfl]
      | false => rw [if_neg Bool.false_ne_true]; exact hm y h2
  rw [← e]; exact F
theorem dict_keys_nodup {prog : Program} {w : World} {o : Obj} {kvs : List (Int × Value)} (h : o.IsDictOf (PySem.intKind prog w) kvs) : (kvs.map (·.1)).Nodup := by
  obtain ⟨_, _, _, _, _, _, hn⟩ := h
  exact hn
theorem nodup_le {l l' : List Int} (hn : l.Nodup) (hs : ∀ x ∈ l, x ∈ l') : l.length ≤ l'.length := by
  induction l generalizing l' with
  | nil => simp
  | cons a r ih =>
    rw [List.nodup_cons] at hn
    have ha := hs a (.head _)
    have : ∀ x ∈ r, x ∈ l'.erase a := fun x hx => (List.mem_erase_of_ne (fun (e : x = a) => hn.1 (e ▸ hx))).mpr (hs x (.tail _ hx))
    have h2 := ih hn.2 this
    have h3 := List.length_erase_of_mem ha
    have h4 := List.length_pos_of_mem ha
    rw [List.length_cons]; omega
theorem nbr_len {adj : List (Int × List Int)} {u : Int} {ns : List Int} (hc : Closed adj) (hm : (u, ns) ∈ adj) (hn : ns.Nodup) : ns.length ≤ adj.length := by
  have := nodup_le hn (fun x hx => hc _ hm x hx)
  simpa using this
section
variable {prog : Program} {w : World}
def Jn (prog : Program) (w : World) (g d : Addr) (DE : List DictEntry) (dn : Nat) (na aa at' : Addr) (oat : Obj) (rest : List (Addr × Obj)) (m₀ : Str → Option Value) (fp : List Addr) (adj : List (Int × List Int)) (m : Str → Option Value) (nx : List (Addr × Obj)) : Prop :=
  ∃ on oa nks aks tl, nx = (g, instObj 629 d) :: (d, dictOf DE dn) :: (na, on) :: (aa, oa) :: (at', oat) :: (tl ++ rest) ∧ (nx.map (·.1)).Nodup ∧ (∀ b ∈ fp, b ∉ g :: d :: na :: aa :: at' :: tl.map (·.1)) ∧
    on.IsDictOf (PySem.intKind prog w) nks ∧ nks.map (·.1) = adj.map (·.1) ∧ oa.IsDictOf (PySem.intKind prog w) aks ∧ Inn (prog := prog) w tl aks adj ∧ (adj.map (·.1)).Nodup ∧ Closed adj ∧ (∀ z, lastNames.contains z = false → m z = m₀ z)

def Jf (prog : Program) (w : World) (g d : Addr) (DE : List DictEntry) (dn : Nat) (na aa at' : Addr) (oat : Obj) (rest : List (Addr × Obj)) (m₀ : Str → Option Value) (fp : List Addr) (ed : Nat → Int × Int) (adj : List (Int × List Int)) (i : Nat) (m : Str → Option Value) (nx : List (Addr × Obj)) : Prop :=
  Jn prog w g d DE dn na aa at' oat rest m₀ fp (((List.range i).map ed).foldl addE adj) m nx
theorem jf_succ {g d : Addr} {DE : List DictEntry} {dn : Nat} {na aa at' : Addr} {oat : Obj} {rest : List (Addr × Obj)} {m₀ : Str → Option Value} {fp : List Addr} {ed : Nat → Int × Int} {adj : List (Int × List Int)} {i : Nat} :
    Jf prog w g d DE dn na aa at' oat rest m₀ fp ed adj (i + 1) = Jn prog w g d DE dn na aa at' oat rest m₀ fp (addE (((List.range i).map ed).foldl addE adj) (ed i)) := by
  funext m nx
  unfold Jf
  rw [foldE_succ]
/-- the turn's end: a node that was there, a new one -/
theorem turn_end_B {g d na aa at' iu iv t av dd L x0 : Addr} {DE : List DictEntry} {dn : Nat} {oat on' oa' ou' ov' ou : Obj} {pre post rest own led : List (Addr × Obj)} {m₀ mm : Str → Option Value} {fp wr : List Addr} {a1 a2 : List (Int × List Int)} {u v : Int} {kvs nks ak1 ak2 : List (Int × Value)} {h₀ h' : Heap} {s₁ : Shared} {tk : Nat}
    (F : Fr h₀ L h' mm) (N : News h₀ L h' led)
    (m1 : (g, instObj 629 d) ∈ led) (m2 : (d, dictOf DE dn) ∈ led) (m3 : (na, on') ∈ led) (m4 : (aa, oa') ∈ led) (m5 : (at', oat) ∈ led) (m6 : (iu, ou') ∈ led)
    (hon' : on'.IsDictOf (PySem.intKind prog w) (stored nks v (.ref av))) (hoa' : oa'.IsDictOf (PySem.intKind prog w) (stored (ak1 ++ (u, .ref iu) :: ak2) v (.ref iv))) (hou' : ou'.IsDictOf (PySem.intKind prog w) (stored kvs v (.ref dd)))
    (m7 : (iv, ov') ∈ led) (hov' : ov'.IsDictOf (PySem.intKind prog w) (stored [] u (.ref dd))) (m8 : ∀ p ∈ pre ++ (post ++ (rest ++ own)), p ∈ led) (liv : (iv == sysModules) = false)
    (hlt : x0 < iv ∧ t < iv ∧ g < iv ∧ d < iv ∧ na < iv ∧ aa < iv ∧ at' < iv ∧ iu < iv ∧ AllLt iv (pre ++ (post ++ (rest ++ own))))
    (hnd : (g :: d :: na :: aa :: at' :: ((pre ++ (iu, ou) :: post) ++ rest).map (·.1)).Nodup)
    (hfp : ∀ b ∈ fp, b ∉ g :: d :: na :: aa :: at' :: (pre ++ (iu, ou) :: post).map (·.1)) (hsub : ∀ b ∈ wr, b ∈ fp) (hrw : ∀ p ∈ rest, p.1 ∉ wr) (hfo : ∀ b ∈ fp, ∃ o, (b, o) ∈ own)
    (hnk : nks.map (·.1) = (a1 ++ (u, kvs.map (·.1)) :: a2).map (·.1)) (hpre : Inn (prog := prog) w pre ak1 a1) (hpost : Inn (prog := prog) w post ak2 a2) (liu : (iu == sysModules) = false)
    (hak : ((a1 ++ (u, kvs.map (·.1)) :: a2).map (·.1)).Nodup) (hcl : Closed (a1 ++ (u, kvs.map (·.1)) :: a2)) (hne : u ≠ v) (hv : v ∉ (a1 ++ (u, kvs.map (·.1)) :: a2).map (·.1)) (hu1 : u ∉ a1.map (·.1)) (hu2 : u ∉ a2.map (·.1))
    (hm : ∀ z, lastNames.contains z = false → mm z = m₀ z) :
    TurnEnd h₀ L wr own (Jn prog w g d DE dn na aa at' oat rest m₀ fp (addE (a1 ++ (u, kvs.map (·.1)) :: a2) (u, v))) s₁ .next { s₁ with heap := h', toks := tk } := by
  obtain ⟨_, _, l1, l2, l3, l4, l5, l6, l7⟩ := hlt
  have lr := allLt_mem l7
  have hvn : valueAt nks v = none := (va_none_iff _ _).mpr (hnk ▸ hv)
  have hkk : v ∉ kvs.map (·.1) := closed_not (u := u) hcl (by simp) hv
  have hak' : (ak1 ++ (u, .ref iu) :: ak2).map (·.1) = (a1 ++ (u, kvs.map (·.1)) :: a2).map (·.1) := by
    rw [List.map_append, List.map_append, List.map_cons, List.map_cons, hpre.keys, hpost.keys]
  rw [st_new _ _ hvn] at hon'
  rw [st_new _ _ ((va_none_iff _ _).mpr (hak' ▸ hv))] at hoa'
  rw [st_new _ _ ((va_none_iff _ _).mpr hkk)] at hou'
  rw [st_new _ _ (va_nil u)] at hov'
  have hperm : ((((pre ++ (iu, ou') :: post) ++ [(iv, ov')]) ++ rest).map (·.1)).Perm (iv :: ((pre ++ (iu, ou) :: post) ++ rest).map (·.1)) := by
    have : (((pre ++ (iu, ou') :: post) ++ [(iv, ov')]) ++ rest).map (·.1) = ((pre ++ (iu, ou) :: post).map (·.1)) ++ iv :: rest.map (·.1) := by simp
    have e2 : ((pre ++ (iu, ou) :: post) ++ rest).map (·.1) = ((pre ++ (iu, ou) :: post).map (·.1)) ++ rest.map (·.1) := List.map_append ..
    rw [this, e2]
    exact List.perm_middle
  have hivn : iv ∉ ((pre ++ (iu, ou) :: post) ++ rest).map (·.1) := by
    intro hm'
    obtain ⟨p, hp, e⟩ := List.mem_map.mp hm'
    have : p.1 < iv := by
      rcases List.mem_append.mp hp with hp | hp
      · rcases List.mem_append.mp hp with hp | hp
        · exact lr p (List.mem_append_left _ hp)
        · rcases List.mem_cons.mp hp with rfl | hp
          · exact l6
          · exact lr p (List.mem_append_right _ (List.mem_append_left _ hp))
      · exact lr p (List.mem_append_right _ (List.mem_append_right _ (List.mem_append_left _ hp)))
    exact Nat.lt_irrefl _ (e ▸ this)
  have hfpn : ∀ b ∈ fp, b ≠ iv := fun b hb e => by
    obtain ⟨o, ho⟩ := hfo b hb
    have := lr _ (List.mem_append_right pre (List.mem_append_right post (List.mem_append_right rest ho)))
    exact Nat.lt_irrefl _ (e ▸ this)
  have hfp' : ∀ b ∈ fp, b ∉ g :: d :: na :: aa :: at' :: ((pre ++ (iu, ou') :: post) ++ [(iv, ov')]).map (·.1) := by
    intro b hb hmem
    refine hfp b hb ?_
    have e : ((pre ++ (iu, ou') :: post) ++ [(iv, ov')]).map (·.1) = (pre ++ (iu, ou) :: post).map (·.1) ++ [iv] := by simp
    rw [e] at hmem
    simp only [List.mem_cons, List.mem_append, List.not_mem_nil, or_false] at hmem ⊢
    rcases hmem with h | h | h | h | h | h | h
    · exact .inl h
    · exact .inr (.inl h)
    · exact .inr (.inr (.inl h))
    · exact .inr (.inr (.inr (.inl h)))
    · exact .inr (.inr (.inr (.inr (.inl h))))
    · exact .inr (.inr (.inr (.inr (.inr h))))
    · exact absurd h (hfpn b hb)
  have hlt6 : ∀ x ∈ [g, d, na, aa, at'], iv ≠ x := by
    intro x hx e
    simp only [List.mem_cons, List.not_mem_nil, or_false] at hx
    rcases hx with rfl | rfl | rfl | rfl | rfl
    · exact Nat.lt_irrefl _ (e ▸ l1)
    · exact Nat.lt_irrefl _ (e ▸ l2)
    · exact Nat.lt_irrefl _ (e ▸ l3)
    · exact Nat.lt_irrefl _ (e ▸ l4)
    · exact Nat.lt_irrefl _ (e ▸ l5)
  refine ⟨rfl, h', tk, mm, (g, instObj 629 d) :: (d, dictOf DE dn) :: (na, on') :: (aa, oa') :: (at', oat) :: (((pre ++ (iu, ou') :: post) ++ [(iv, ov')]) ++ rest), rfl, F, ?_, ?_, on', oa', _, _, _, rfl, ?_, hfp', hon', ?_, hoa', ?_, ?_, ?_, hm⟩
  · intro p hp
    refine N p ?_
    simp only [List.mem_append, List.mem_cons, List.not_mem_nil, or_false] at hp m8
    rcases hp with (h | h | h | h | h | ((h | h | h) | h) | h) | h
    · exact h ▸ m1
    · exact h ▸ m2
    · exact h ▸ m3
    · exact h ▸ m4
    · exact h ▸ m5
    · exact m8 p (.inl h)
    · exact h ▸ m6
    · exact m8 p (.inr (.inl h))
    · exact h ▸ m7
    · exact m8 p (.inr (.inr (.inl h)))
    · exact m8 p (.inr (.inr (.inr h)))
  · intro p hp hw
    have hb := hfp' p.1 (hsub _ hw)
    simp only [List.mem_append, List.mem_cons, List.not_mem_nil, or_false] at hp
    have memt : p ∈ (pre ++ (iu, ou') :: post) ++ [(iv, ov')] → False := fun hp' => hb (by
      have : p.1 ∈ ((pre ++ (iu, ou') :: post) ++ [(iv, ov')]).map (·.1) := List.mem_map.mpr ⟨p, hp', rfl⟩
      exact .tail _ (.tail _ (.tail _ (.tail _ (.tail _ this)))))
    rcases hp with h | h | h | h | h | ((h | h | h) | h) | h
    · exact hb (by rw [h]; simp)
    · exact hb (by rw [h]; simp)
    · exact hb (by rw [h]; simp)
    · exact hb (by rw [h]; simp)
    · exact hb (by rw [h]; simp)
    · exact memt (by simp [h])
    · exact memt (by simp [h])
    · exact memt (by simp [h])
    · exact memt (by simp [h])
    · exact hrw p h hw
  · have e : (((g, instObj 629 d) :: (d, dictOf DE dn) :: (na, on') :: (aa, oa') :: (at', oat) :: (((pre ++ (iu, ou') :: post) ++ [(iv, ov')]) ++ rest)).map (·.1)) = g :: d :: na :: aa :: at' :: (((pre ++ (iu, ou') :: post) ++ [(iv, ov')]) ++ rest).map (·.1) := rfl
    rw [e]
    have hp2 := (((((hperm.cons at').cons aa).cons na).cons d).cons g)
    refine hp2.nodup_iff.mpr ?_
    have hp3 : (g :: d :: na :: aa :: at' :: iv :: ((pre ++ (iu, ou) :: post) ++ rest).map (·.1)).Perm (iv :: g :: d :: na :: aa :: at' :: ((pre ++ (iu, ou) :: post) ++ rest).map (·.1)) := by
      have := List.perm_middle (a := iv) (l₁ := [g, d, na, aa, at']) (l₂ := ((pre ++ (iu, ou) :: post) ++ rest).map (·.1))
      simpa using this
    refine hp3.nodup_iff.mpr (List.nodup_cons.mpr ⟨?_, hnd⟩)
    intro hmm
    simp only [List.mem_cons] at hmm
    rcases hmm with h | h | h | h | h | h
    · exact hlt6 g (by simp) h
    · exact hlt6 d (by simp) h
    · exact hlt6 na (by simp) h
    · exact hlt6 aa (by simp) h
    · exact hlt6 at' (by simp) h
    · exact hivn h
  · rw [addE_B hne hv hu1 hu2, List.map_append, hnk]; simp
  · rw [addE_B hne hv hu1 hu2]
    have hI := (hpre.append (Inn.cons (prog := prog) (k := u) hou' liu hpost)).append (Inn.cons (prog := prog) (k := v) hov' liv .nil)
    simpa using hI
  · rw [addE_B hne hv hu1 hu2]
    have : ((a1 ++ (u, kvs.map (·.1) ++ [v]) :: a2) ++ [(v, [u])]).map (·.1) = (a1 ++ (u, kvs.map (·.1)) :: a2).map (·.1) ++ [v] := by simp
    rw [this]
    exact List.nodup_append.mpr ⟨hak, by simp, fun x hx y hy e => by rw [List.mem_singleton.mp hy] at e; exact hv (e ▸ hx)⟩
  · rw [addE_B hne hv hu1 hu2]; exact closed_B hcl

/-- the turn's end: two new nodes -/
theorem turn_end_A {g d na aa at' iu iv t av au dd L x0 x1 x2 : Addr} {DE : List DictEntry} {dn : Nat} {oat on' oa' ou' ov' : Obj} {tl rest own led : List (Addr × Obj)} {m₀ mm : Str → Option Value} {fp wr : List Addr} {ai : List (Int × List Int)} {u v : Int} {nks aks : List (Int × Value)} {h₀ h' : Heap} {s₁ : Shared} {tk : Nat}
    (F : Fr h₀ L h' mm) (N : News h₀ L h' led)
    (m1 : (g, instObj 629 d) ∈ led) (m2 : (d, dictOf DE dn) ∈ led) (m3 : (na, on') ∈ led) (m4 : (aa, oa') ∈ led) (m5 : (at', oat) ∈ led)
    (hon' : on'.IsDictOf (PySem.intKind prog w) (stored (stored nks u (.ref au)) v (.ref av))) (hoa' : oa'.IsDictOf (PySem.intKind prog w) (stored (stored aks u (.ref iu)) v (.ref iv)))
    (m6 : (iu, ou') ∈ led) (hou' : ou'.IsDictOf (PySem.intKind prog w) (stored [] v (.ref dd)))
    (m7 : (iv, ov') ∈ led) (hov' : ov'.IsDictOf (PySem.intKind prog w) (stored [] u (.ref dd))) (m8 : ∀ p ∈ tl ++ (rest ++ own), p ∈ led) (liu : (iu == sysModules) = false) (liv : (iv == sysModules) = false)
    (hltu : x0 < iu ∧ t < iu ∧ g < iu ∧ d < iu ∧ na < iu ∧ aa < iu ∧ at' < iu ∧ AllLt iu (tl ++ (rest ++ own)))
    (hltv : x1 < iv ∧ iu < iv ∧ x2 < iv ∧ t < iv ∧ g < iv ∧ d < iv ∧ na < iv ∧ aa < iv ∧ at' < iv ∧ AllLt iv (tl ++ (rest ++ own)))
    (hnd : (g :: d :: na :: aa :: at' :: (tl ++ rest).map (·.1)).Nodup)
    (hfp : ∀ b ∈ fp, b ∉ g :: d :: na :: aa :: at' :: tl.map (·.1)) (hsub : ∀ b ∈ wr, b ∈ fp) (hrw : ∀ p ∈ rest, p.1 ∉ wr) (hfo : ∀ b ∈ fp, ∃ o, (b, o) ∈ own)
    (hnk : nks.map (·.1) = ai.map (·.1)) (hinn : Inn (prog := prog) w tl aks ai)
    (hak : (ai.map (·.1)).Nodup) (hcl : Closed ai) (hne : u ≠ v) (hu : u ∉ ai.map (·.1)) (hv : v ∉ ai.map (·.1))
    (hm : ∀ z, lastNames.contains z = false → mm z = m₀ z) :
    TurnEnd h₀ L wr own (Jn prog w g d DE dn na aa at' oat rest m₀ fp (addE ai (u, v))) s₁ .next { s₁ with heap := h', toks := tk } := by
  obtain ⟨_, _, k1, k2, k3, k4, k5, k7⟩ := hltu
  obtain ⟨_, k8, _, _, l1, l2, l3, l4, l5, l7⟩ := hltv
  have lr := allLt_mem l7
  have kr := allLt_mem k7
  have hun : valueAt nks u = none := (va_none_iff _ _).mpr (hnk ▸ hu)
  have hvn : valueAt (stored nks u (.ref au)) v = none := by rw [va_stored_new_ne _ _ hun (Ne.symm hne)]; exact (va_none_iff _ _).mpr (hnk ▸ hv)
  have hua : valueAt aks u = none := (va_none_iff _ _).mpr (hinn.keys ▸ hu)
  have hva : valueAt (stored aks u (.ref iu)) v = none := by rw [va_stored_new_ne _ _ hua (Ne.symm hne)]; exact (va_none_iff _ _).mpr (hinn.keys ▸ hv)
  rw [st_new _ _ hvn, st_new _ _ hun] at hon'
  rw [st_new _ _ hva, st_new _ _ hua] at hoa'
  rw [st_new _ _ (va_nil v)] at hou'
  rw [st_new _ _ (va_nil u)] at hov'
  have hperm : (((tl ++ [(iu, ou'), (iv, ov')]) ++ rest).map (·.1)).Perm (iu :: iv :: (tl ++ rest).map (·.1)) := by
    have e1 : ((tl ++ [(iu, ou'), (iv, ov')]) ++ rest).map (·.1) = tl.map (·.1) ++ iu :: (iv :: rest.map (·.1)) := by simp
    have e2 : (tl ++ rest).map (·.1) = tl.map (·.1) ++ rest.map (·.1) := List.map_append ..
    rw [e1, e2]
    exact List.perm_middle.trans (List.perm_middle.cons _)
  have hfpn : ∀ b ∈ fp, b ≠ iu ∧ b ≠ iv := fun b hb => by
    obtain ⟨o, ho⟩ := hfo b hb
    have q1 := kr _ (List.mem_append_right tl (List.mem_append_right rest ho))
    have q2 := lr _ (List.mem_append_right tl (List.mem_append_right rest ho))
    exact ⟨fun e => Nat.lt_irrefl _ (e ▸ q1), fun e => Nat.lt_irrefl _ (e ▸ q2)⟩
  have hfp' : ∀ b ∈ fp, b ∉ g :: d :: na :: aa :: at' :: (tl ++ [(iu, ou'), (iv, ov')]).map (·.1) := by
    intro b hb hmem
    refine hfp b hb ?_
    have e : (tl ++ [(iu, ou'), (iv, ov')]).map (·.1) = tl.map (·.1) ++ [iu, iv] := by simp
    rw [e] at hmem
    simp only [List.mem_cons, List.mem_append, List.not_mem_nil, or_false] at hmem ⊢
    rcases hmem with h | h | h | h | h | h | h | h
    · exact .inl h
    · exact .inr (.inl h)
    · exact .inr (.inr (.inl h))
    · exact .inr (.inr (.inr (.inl h)))
    · exact .inr (.inr (.inr (.inr (.inl h))))
    · exact .inr (.inr (.inr (.inr (.inr h))))
    · exact absurd h (hfpn b hb).1
    · exact absurd h (hfpn b hb).2
  have gt : ∀ z, (∀ p ∈ tl ++ rest, p.1 < z) → g < z → d < z → na < z → aa < z → at' < z → z ∉ g :: d :: na :: aa :: at' :: (tl ++ rest).map (·.1) := by
    intro z hz z1 z2 z3 z4 z5 hm'
    simp only [List.mem_cons] at hm'
    rcases hm' with h | h | h | h | h | h
    · exact Nat.lt_irrefl _ (h ▸ z1)
    · exact Nat.lt_irrefl _ (h ▸ z2)
    · exact Nat.lt_irrefl _ (h ▸ z3)
    · exact Nat.lt_irrefl _ (h ▸ z4)
    · exact Nat.lt_irrefl _ (h ▸ z5)
    · obtain ⟨p, hp, e⟩ := List.mem_map.mp h
      exact Nat.lt_irrefl _ (e ▸ hz p hp)
  have sub2 : ∀ p ∈ tl ++ rest, p ∈ tl ++ (rest ++ own) := fun p hp => by
    rcases List.mem_append.mp hp with h | h
    · exact List.mem_append_left _ h
    · exact List.mem_append_right _ (List.mem_append_left _ h)
  refine ⟨rfl, h', tk, mm, (g, instObj 629 d) :: (d, dictOf DE dn) :: (na, on') :: (aa, oa') :: (at', oat) :: ((tl ++ [(iu, ou'), (iv, ov')]) ++ rest), rfl, F, ?_, ?_, on', oa', _, _, _, rfl, ?_, hfp', hon', ?_, hoa', ?_, ?_, ?_, hm⟩
  · intro p hp
    refine N p ?_
    simp only [List.mem_append, List.mem_cons, List.not_mem_nil, or_false] at hp m8
    rcases hp with (h | h | h | h | h | (h | h | h) | h) | h
    · exact h ▸ m1
    · exact h ▸ m2
    · exact h ▸ m3
    · exact h ▸ m4
    · exact h ▸ m5
    · exact m8 p (.inl h)
    · exact h ▸ m6
    · exact h ▸ m7
    · exact m8 p (.inr (.inl h))
    · exact m8 p (.inr (.inr h))
  · intro p hp hw
    have hb := hfp' p.1 (hsub _ hw)
    simp only [List.mem_append, List.mem_cons, List.not_mem_nil, or_false] at hp
    have memt : p ∈ tl ++ [(iu, ou'), (iv, ov')] → False := fun hp' => hb (by
      have : p.1 ∈ (tl ++ [(iu, ou'), (iv, ov')]).map (·.1) := List.mem_map.mpr ⟨p, hp', rfl⟩
      exact .tail _ (.tail _ (.tail _ (.tail _ (.tail _ this)))))
    rcases hp with h | h | h | h | h | (h | h | h) | h
    · exact hb (by rw [h]; simp)
    · exact hb (by rw [h]; simp)
    · exact hb (by rw [h]; simp)
    · exact hb (by rw [h]; simp)
    · exact hb (by rw [h]; simp)
    · exact memt (by simp [h])
    · exact memt (by simp [h])
    · exact memt (by simp [h])
    · exact hrw p h hw
  · have e : (((g, instObj 629 d) :: (d, dictOf DE dn) :: (na, on') :: (aa, oa') :: (at', oat) :: ((tl ++ [(iu, ou'), (iv, ov')]) ++ rest)).map (·.1)) = g :: d :: na :: aa :: at' :: ((tl ++ [(iu, ou'), (iv, ov')]) ++ rest).map (·.1) := rfl
    rw [e]
    have hp2 := (((((hperm.cons at').cons aa).cons na).cons d).cons g)
    refine hp2.nodup_iff.mpr ?_
    have hp3 : (g :: d :: na :: aa :: at' :: iu :: iv :: (tl ++ rest).map (·.1)).Perm (iu :: iv :: g :: d :: na :: aa :: at' :: (tl ++ rest).map (·.1)) := by
      have q1 := List.perm_middle (a := iu) (l₁ := [g, d, na, aa, at']) (l₂ := iv :: (tl ++ rest).map (·.1))
      have q2 := List.perm_middle (a := iv) (l₁ := [g, d, na, aa, at']) (l₂ := (tl ++ rest).map (·.1))
      exact q1.trans (q2.cons iu)
    refine hp3.nodup_iff.mpr (List.nodup_cons.mpr ⟨?_, List.nodup_cons.mpr ⟨gt iv (fun p hp => lr p (sub2 p hp)) l1 l2 l3 l4 l5, hnd⟩⟩)
    intro hmm
    rcases List.mem_cons.mp hmm with h | h
    · exact Nat.lt_irrefl _ (h ▸ k8)
    · exact gt iu (fun p hp => kr p (sub2 p hp)) k1 k2 k3 k4 k5 h
  · rw [addE_A hne hu hv, List.map_append, List.map_append, List.map_append, hnk]; simp
  · rw [addE_A hne hu hv]
    have hI := (hinn.append (Inn.cons (prog := prog) (k := u) hou' liu (Inn.cons (prog := prog) (k := v) hov' liv .nil)))
    simpa using hI
  · rw [addE_A hne hu hv]
    have : (ai ++ [(u, [v]), (v, [u])]).map (·.1) = ai.map (·.1) ++ [u, v] := by simp
    rw [this]
    refine List.nodup_append.mpr ⟨hak, by simp [hne], fun x hx y hy e => ?_⟩
    simp only [List.mem_cons, List.not_mem_nil, or_false] at hy
    rcases hy with rfl | rfl
    · exact hu (e ▸ hx)
    · exact hv (e ▸ hx)
  · rw [addE_A hne hu hv]; exact closed_A hcl
end
end Mine
end
section
open PySem PySem.W PySem.Calls PyProof.Rows
namespace Mine
local macro_rules | `(tactic| walk_at "ZZ0") => `(tactic| skip)
local macro_rules | `(tactic| walk_at "ZZ1") => `(tactic| skip)
local macro_rules | `(tactic| walk_at "ZZ2") => `(tactic| skip)
local macro_rules | `(tactic| walk_at "ZZ3") => `(tactic| skip)
local macro_rules | `(tactic| walk_at "ZZ4") => `(tactic| skip)
local macro_rules | `(tactic| walk_at "ZZ5") => `(tactic| skip)
local macro_rules | `(tactic| walk_at "ZZ6") => `(tactic| skip)
local macro_rules | `(tactic| walk_at "ZZ7") => `(tactic| skip)
local macro_rules | `(tactic| walk_at "ZZ8") => `(tactic| skip)
local macro_rules | `(tactic| walk_at "ZZ9") => `(tactic| skip)
local macro_rules | `(tactic| walk_at "ZZ10") => `(tactic| skip)
local macro_rules | `(tactic| walk_at "ZZ11") => `(tactic| skip)
local macro_rules | `(tactic| walk_at "ZZ12") => `(tactic| skip)
local macro_rules | `(tactic| walk_at "ZZ13") => `(tactic| skip)
local macro_rules | `(tactic| walk_at "ZZ14") => `(tactic| skip)
local macro_rules | `(tactic| walk_at "ZZ15") => `(tactic| skip)
local macro_rules | `(tactic| walk_at "ZZ16") => `(tactic| skip)
local macro_rules | `(tactic| walk_at "ZZ17") => `(tactic| skip)
local macro_rules | `(tactic| walk_at "ZZ18") => `(tactic| skip)
local macro_rules | `(tactic| walk_at "ZZ19") => `(tactic| skip)
local macro_rules | `(tactic| walk_at "ZZ20") => `(tactic| skip)
local macro_rules | `(tactic| walk_at "ZZ21") => `(tactic| skip)
local macro_rules | `(tactic| walk_at "ZZ22") => `(tactic| skip)
local macro_rules | `(tactic| walk_at "ZZ23") => `(tactic| skip)
local macro_rules | `(tactic| walk_at "ZZ24") => `(tactic| skip)
local macro_rules | `(tactic| walk_at "ZZ25") => `(tactic| skip)
local macro_rules | `(tactic| walk_at "ZZ26") => `(tactic| skip)
local macro_rules | `(tactic| walk_at "ZZ27") => `(tactic| skip)
local macro_rules | `(tactic| walk_at "ZZ28") => `(tactic| skip)
local macro_rules | `(tactic| walk_at "ZZ29") => `(tactic| skip)
theorem rs1 {M : Model} {A : Around} {E : Value → Shared → Prop} {s : Shared} {env : Env} {pos : Pos} {Q : Flow → Shared → Prop} (h : wpAny M A (exec (.Pass pos) env) Q E s) : wpAny M A (exec (.Pass pos) env) Q E s := by
  w_top off
  first | (walk1; fail) | exact h
end Mine
end
section
open PySem PySem.W PySem.Calls PyProof.Rows
set_option maxRecDepth 100000
set_option maxHeartbeats 4000000
set_option rowWalk.seconds 0
namespace Mine
local macro_rules | `(tactic| k_all) => `(tactic| assumption)
local macro_rules | `(tactic| walk_at "execs nil") => `(tactic| (k_here; refine wpAny_execs_nil ?_))
theorem seed_spec {w : World} {mean : ExcName → Option Value} {mg mb : Str → Option Value} {gd : Option (List Code)} {cn : Str} {nms : List (Str × NameKind)} {sg sc : Bool} {mo : List (Str × Const)} {a : Addr} {ccd : Value} {cl : List (Str × Addr)} {outer : List Env} {A₀ : Around} {base h₀ : Heap} {L : Addr} {m : Str → Option Value} {rest : List (Addr × Obj)} {s : Shared}
    {Q E : Value → Shared → Prop} {l : Addr} {vs : List Value} {ns : List Int}
    (B : Below A₀ base outer h₀) (F : Fr h₀ L s.heap m) (X : (hd.heap_39 w.params).In h₀) (N : News h₀ L s.heap rest) (T : Top TP LS mean mg mb h₀) (hl : base.IsList l vs.toArray) (hi : IntsAre vs ns) (hlen : ns.length ≤ 63)
    (h : ∀ h' tk b x t c, Fr h₀ L h' m → News h₀ L h' ((b, listOf #[.int x t] c) :: rest) → (∀ p ∈ rest, p.1 < b) → 0 ≤ x → x < 2147483647 → Q (.ref b) { s with heap := h', toks := tk }) :
    wpAny (model PP w) (ktrTop 302 7 gd cn { kind := .function, names := nms, isGenerator := sg, isCoroutine := sc, more := mo } L a ccd cl outer) (call (.ref 680) [.ref l]) Q E s := by
  refine of_mk ?_
  k_fill
  intro _
  k_with "pyIter ref" => k_state (fun (pre : List Int) (seed : Int) => 0 ≤ seed ∧ seed < 2147483647) "seed"
  k_steps
  k_with_none
  exact h _ _ _ _ _ _ ‹Fr h₀ L _ m› (fun p hp => ‹News h₀ L _ _› p (by
    rcases List.mem_cons.mp hp with rfl | hp
    · exact .head _
    · exact .tail _ (.tail _ hp))) (fun p hp => allLt_mem (And.right (by assumption)) p hp) (by assumption) (by assumption)
end Mine
end
section
open PySem PySem.W PySem.Calls PyProof.Rows
namespace Mine
local macro_rules | `(tactic| walk_at "ZZ0") => `(tactic| skip)
local macro_rules | `(tactic| walk_at "ZZ1") => `(tactic| skip)
local macro_rules | `(tactic| walk_at "ZZ2") => `(tactic| skip)
local macro_rules | `(tactic| walk_at "ZZ3") => `(tactic| skip)
local macro_rules | `(tactic| walk_at "ZZ4") => `(tactic| skip)
local macro_rules | `(tactic| walk_at "ZZ5") => `(tactic| skip)
local macro_rules | `(tactic| walk_at "ZZ6") => `(tactic| skip)
local macro_rules | `(tactic| walk_at "ZZ7") => `(tactic| skip)
local macro_rules | `(tactic| walk_at "ZZ8") => `(tactic| skip)
local macro_rules | `(tactic| walk_at "ZZ9") => `(tactic| skip)
local macro_rules | `(tactic| walk_at "ZZ10") => `(tactic| skip)
local macro_rules | `(tactic| walk_at "ZZ11") => `(tactic| skip)
local macro_rules | `(tactic| walk_at "ZZ12") => `(tactic| skip)
local macro_rules | `(tactic| walk_at "ZZ13") => `(tactic| skip)
local macro_rules | `(tactic| walk_at "ZZ14") => `(tactic| skip)
local macro_rules | `(tactic| walk_at "ZZ15") => `(tactic| skip)
local macro_rules | `(tactic| walk_at "ZZ16") => `(tactic| skip)
local macro_rules | `(tactic| walk_at "ZZ17") => `(tactic| skip)
local macro_rules | `(tactic| walk_at "ZZ18") => `(tactic| skip)
local macro_rules | `(tactic| walk_at "ZZ19") => `(tactic| skip)
local macro_rules | `(tactic| walk_at "ZZ20") => `(tactic| skip)
local macro_rules | `(tactic| walk_at "ZZ21") => `(tactic| skip)
local macro_rules | `(tactic| walk_at "ZZ22") => `(tactic| skip)
local macro_rules | `(tactic| walk_at "ZZ23") => `(tactic| skip)
local macro_rules | `(tactic| walk_at "ZZ24") => `(tactic| skip)
local macro_rules | `(tactic| walk_at "ZZ25") => `(tactic| skip)
local macro_rules | `(tactic| walk_at "ZZ26") => `(tactic| skip)
local macro_rules | `(tactic| walk_at "ZZ27") => `(tactic| skip)
local macro_rules | `(tactic| walk_at "ZZ28") => `(tactic| skip)
local macro_rules | `(tactic| walk_at "ZZ29") => `(tactic| skip)
theorem rs2 {M : Model} {A : Around} {E : Value → Shared → Prop} {s : Shared} {env : Env} {pos : Pos} {Q : Flow → Shared → Prop} (h : wpAny M A (exec (.Pass pos) env) Q E s) : wpAny M A (exec (.Pass pos) env) Q E s := by
  w_top off
  first | (walk1; fail) | exact h
end Mine
end
section
open PySem PySem.W PySem.Calls PyProof.Rows
set_option maxRecDepth 100000
set_option maxHeartbeats 4000000
set_option rowWalk.seconds 0
namespace Mine
local macro_rules | `(tactic| k_all) => `(tactic| assumption)
theorem next_arith {x k : Int} (hx0 : 0 ≤ x) (hk : 1 ≤ k) : 0 ≤ (x * 48271 + 11).fmod 2147483647 ∧ (x * 48271 + 11).fmod 2147483647 < 2147483647 ∧ 0 ≤ (((x * 48271 + 11).fmod 2147483647).fdiv 64).fmod k ∧ (((x * 48271 + 11).fmod 2147483647).fdiv 64).fmod k < k := by
  refine ⟨Int.fmod_nonneg_of_pos _ (by decide), Int.fmod_lt_of_pos _ (by decide), Int.fmod_nonneg_of_pos _ (by omega), Int.fmod_lt_of_pos _ (by omega)⟩
theorem next_spec {w : World} {mean : ExcName → Option Value} {mg mb : Str → Option Value} {gd : Option (List Code)} {cn : Str} {nms : List (Str × NameKind)} {sg sc : Bool} {mo : List (Str × Const)} {a : Addr} {ccd : Value} {cl : List (Str × Addr)} {outer : List Env} {A₀ : Around} {base h₀ : Heap} {L : Addr} {m : Str → Option Value} {rest : List (Addr × Obj)} {s : Shared}
    {Q E : Value → Shared → Prop} {b : Addr} {x k : Int} {t tk : Tok} {n : Nat}
    (B : Below A₀ base outer h₀) (F : Fr h₀ L s.heap m) (X : (hd.heap_39 w.params).In h₀) (N : News h₀ L s.heap ((b, listOf #[.int x t] n) :: rest)) (T : Top TP LS mean mg mb h₀)
    (hoff : ∀ p ∈ rest, p.1 ≠ b) (hx0 : 0 ≤ x) (hx1 : x < 2147483647) (hk : 1 ≤ k) (hk2 : k ≤ 100)
    (h : ∀ h' tk' x' t' r t2, Fr h₀ L h' m → News h₀ L h' ((b, listOf #[.int x' t'] n) :: rest) → 0 ≤ x' → x' < 2147483647 → 0 ≤ r → r < k → Q (.int r t2) { s with heap := h', toks := tk' }) :
    wpAny (model PP w) (ktrTop 303 10 gd cn { kind := .function, names := nms, isGenerator := sg, isCoroutine := sc, more := mo } L a ccd cl outer) (call (.ref 687) [.ref b, .int k tk]) Q E s := by
  refine of_mk ?_
  k_fill
  intro _
  k_steps
  obtain ⟨n1, n2, n3, n4⟩ := next_arith hx0 hk
  refine h _ _ _ _ _ _ (by k_asm) (by k_asm) n1 n2 n3 n4
end Mine
end
section
open PySem PySem.W PySem.Calls PyProof.Rows
set_option maxRecDepth 100000
namespace Mine
def Never (_ : Value) (_ : Shared) : Prop := False
section
variable {prog : Program} {w : World} {A : Around} {elt target iter : Expr} {scope : Scope} {pos : Pos} {I : Addr} {cenv : Env} {fp wr : List Addr} {gn : List Nat} {n : Nat} {F : Nat → Heap → Value → Heap → Prop} {LSt : Nat → Shared → Prop}
abbrev cLoop (elt target iter : Expr) (scope : Scope) (pos : Pos) (I : Addr) (cenv : Env) : Code := .compLoop (.GeneratorExp elt [⟨target, iter, [], 0⟩] scope pos) 0 (.ref I) .none cenv
abbrev cStart (elt target iter : Expr) (scope : Scope) (pos : Pos) (I : Addr) (cenv : Env) : Code := .compStart (.GeneratorExp elt [⟨target, iter, [], 0⟩] scope pos) 0 (.ref I) .none cenv
/-- what the turns of a generator expression do -/
structure GenTurns (prog : Program) (w : World) (A₂ : Around) (elt target : Expr) (I : Addr) (cenv : Env) (fp wr : List Addr) (gn : List Nat) (n : Nat) (F : Nat → Heap → Value → Heap → Prop) (LSt : Nat → Shared → Prop) : Prop where
  frame : ∀ i s s', LSt i s → Still fp gn s s' → LSt i s'
  live : ∀ i s, LSt i s → ∀ b ∈ fp, ∃ o, s.heap.get? b = some o
  turn : ∀ i (s : Shared), i < n → LSt i s → s.heap.NoLimit → wpAny (model prog w) A₂ (pyNext (.ref I)) (fun ov s₁ => ∃ v, ov = some v ∧ wpAny (model prog w) A₂ (letOwnedTupleGo target (.ref I) v) (fun _ sa =>
    wpAny (model prog w) A₂ (assign target cenv v) (fun _ sb => wpAny (model prog w) A₂ (eval elt cenv) (fun y sc => LSt (i + 1) sc ∧ Mvd wr gn s sc ∧ F i s.heap y sc.heap) Never sb) Never sa) Never s₁) Never s
  last : ∀ s : Shared, LSt n s → s.heap.NoLimit → wpAny (model prog w) A₂ (pyNext (.ref I)) (fun ov s₁ => ov = none ∧ Mvd wr gn s s₁) Never s
theorem seg_genLoopI (hco : cenv.scope.isCoroutine = false) (T : GenTurns prog w (A.over (cLoop elt target iter scope pos I cenv) []) elt target I cenv fp wr gn n F LSt) :
    ∀ (k i : Nat) (s : Shared), n - i = k → i ≤ n → LSt i s → s.heap.NoLimit →
      Seg (model prog w) A (genEndI true wr gn) (genProtoI fp wr gn n F) (n - i) s (cLoop elt target iter scope pos I cenv) ((model prog w).den (cLoop elt target iter scope pos I cenv)) [] s := by
  intro k
  induction k with
  | zero =>
    intro i s hk hi hst hl
    have hin : i = n := by omega
    subst hin
    show Seg _ A _ _ _ s _ ((compTurn (.GeneratorExp elt [⟨target, iter, [], 0⟩] scope pos) 0 (.ref I) .none cenv).onRaise (leaving cenv)) [] s
    rw [compTurn_gen, Sem.onRaise_eq_wrap]
    refine seg_bind_wrap (wpAny_standAt ?_)
    refine seg_bind_wrap (wpAny_mono (T.last s hst hl) (fun ov s₁ h => ?_) fun _ _ e => e.elim)
    obtain ⟨rfl, hm⟩ := h
    exact seg_end (.ok .next) ⟨rfl, Nat.sub_self _, hm⟩
  | succ k ih =>
    intro i s hk hi hst hl
    have hlt : i < n := by omega
    obtain ⟨q, hq⟩ : ∃ q, n - i = q + 1 := ⟨n - i - 1, by omega⟩
    rw [hq]
    show Seg _ A _ _ _ s _ ((compTurn (.GeneratorExp elt [⟨target, iter, [], 0⟩] scope pos) 0 (.ref I) .none cenv).onRaise (leaving cenv)) [] s
    rw [compTurn_gen, Sem.onRaise_eq_wrap]
    refine seg_bind_wrap (wpAny_standAt ?_)
    refine seg_bind_wrap (wpAny_mono (T.turn i s hlt hst hl) (fun ov s₁ h => ?_) fun _ _ e => e.elim)
    obtain ⟨v, rfl, h⟩ := h
    refine seg_bind_wrap (wpAny_mono h (fun _ sa h => ?_) fun _ _ e => e.elim)
    refine seg_bind_wrap (wpAny_mono h (fun _ sb h => ?_) fun _ _ e => e.elim)
    refine seg_bind_wrap (wpAny_pure ?_)
    simp only [if_true]
    have hy : ∀ v, yieldOut cenv v = yieldValue v := fun v => by simp only [yieldOut, hco, Bool.false_eq_true, if_false]
    simp only [hy]
    rw [Sem.bind_eq_wrap', Sem.bind_eq_wrap', Sem.wrap_wrap, Sem.wrap_wrap]
    refine seg_wrap (wpAny_mono h (fun y sc h => ?_) fun _ _ e => e.elim)
    obtain ⟨hst', hm, hF⟩ := h
    have hidx : n - 1 - q = i := by omega
    refine seg_at (seg_yield rfl rfl rfl ⟨by rw [hidx]; exact hF, T.live _ _ hst', hm, fun s'' hal hl'' => ?_⟩)
    have e : n - (i + 1) = q := by omega
    rw [← e]
    exact seg_again rfl (ih (i + 1) s'' (by omega) hlt (T.frame _ _ _ hst' hal) hl'')
theorem seg_genStartI (hco : cenv.scope.isCoroutine = false) (T : GenTurns prog w (A.over (cLoop elt target iter scope pos I cenv) []) elt target I cenv fp wr gn n F LSt)
    (hself : ∀ (A' : Around) (E : Value → Shared → Prop) (Q : Value → Shared → Prop) (s : Shared), LSt 0 s → Q (.ref I) s → wpAny (model prog w) A' (pyIter (.ref I)) Q E s) (s : Shared) (hst : LSt 0 s) (hl : s.heap.NoLimit) :
    Seg (model prog w) A (genEndI true wr gn) (genProtoI fp wr gn n F) n s (cStart elt target iter scope pos I cenv) ((model prog w).den (cStart elt target iter scope pos I cenv)) [] s := by
  have loop := seg_genLoopI (A := A) hco T n 0 s (Nat.sub_zero _) (Nat.zero_le _) hst hl
  rw [Nat.sub_zero] at loop
  show Seg _ A _ _ _ s _ ((compStart (.GeneratorExp elt [⟨target, iter, [], 0⟩] scope pos) 0 (.ref I) .none cenv).onRaise (leaving cenv)) [] s
  unfold compStart
  rw [Sem.onRaise_eq_wrap]
  show Seg _ A _ _ _ s _ ((ask >>= _).wrap _ _ _ _) [] s
  refine seg_bind_wrap (wpAny_askSetting ?_)
  split
  · exact seg_again rfl loop
  · first
      | exact seg_bind_wrap (wpAny_rule (seg_bind_wrap (wpAny_standAt (seg_bind_wrap (hself _ _ _ s hst (seg_again rfl loop))))))
      | (refine seg_bind_wrap (wpAny_rule ?_); show Seg _ A _ _ _ s _ ((standAt iter.pos >>= _).wrap _ _ _ _) [] s; exact seg_bind_wrap (wpAny_standAt (seg_bind_wrap (hself _ _ _ s hst (seg_again rfl loop)))))
/-- a generator expression just made -/
theorem GenAtI.fresh {a : Addr} {g : Nat} {s : Shared} (hco : cenv.scope.isCoroutine = false) (T : GenTurns prog w (A.in1.over (cLoop elt target iter scope pos I cenv) []) elt target I cenv fp wr gn n F LSt)
    (hself : ∀ (A' : Around) (E : Value → Shared → Prop) (Q : Value → Shared → Prop) (s : Shared), LSt 0 s → Q (.ref I) s → wpAny (model prog w) A' (pyIter (.ref I)) Q E s)
    (hg : s.heap.IsGen a g) (hgs : s.gens[g]? = some (.fresh (cStart elt target iter scope pos I cenv))) (hst : LSt 0 s) : GenAtI prog w A true a g fp wr gn n F 0 s :=
  ⟨hg, T.live _ _ hst, _, hgs, fun s'' hal hl => ⟨rfl, seg_genStartI (A := A.in1) hco T hself s'' (T.frame _ _ _ hst hal) hl⟩⟩
end

section
variable {M : Model} {A : Around} {E : Value → Shared → Prop} {s : Shared}
/-- the code of a generator expression, its table laid aside in the ledger -/
theorem genexprCode_T {env : Env} {c P : Addr} {ps : Array Value} {pos : Pos} {qualname : Str} {scope : Scope} {Q : Value → Shared → Prop} (hc : env.code = .ref c) (hok : CodeHd s.heap c P) (hP : s.heap.get? P = some (tabObj ps)) (ht : TriplesOk ps.toList)
    (hQ : ∀ code h' tk ps', Heap.ExtBut P s.heap h' → h'.get? P = some (tabObj ps') → TriplesOk ps'.toList → Q code { s with heap := h', toks := tk }) :
    wpAny M A (genexprCode env pos qualname scope) Q E s := by
  obtain ⟨o, vs, file, tf, flags, tg, inF, text, tt, ho, hcl, hd, h11, h11', h2, h7, h9, h10, hne⟩ := id hok
  unfold genexprCode codeAt
  rw [hc, if_neg (show ¬ ((Value.ref c == Value.none) = true) from Bool.false_ne_true)]
  refine wpAny_bind (wpAny_fieldsOf ho hd ?_)
  rw [h11']
  refine wpAny_bind (wpAny_fieldsOf hP rfl ?_)
  cases hnf : codeAmong pos ps.toList with
  | some cv => exact wpAny_pure (hQ cv s.heap s.toks ps (Heap.ExtBut.refl _ _) hP ht)
  | none =>
    rw [h2, h7, h9, h10]
    refine wpAny_bind (wpAny_newCode fun c' P' h' tk hk hc' hP' hcode' hrec' => ?_)
    have hop' := hk _ _ hP
    refine wpAny_bind (wpAny_updateFieldsOfTheText hop' rfl ?_)
    have hnew : Obj.mapFields (fun vs => if (codeAmong pos vs.toList).isSome = true then vs else vs ++ #[rawInt pos.line, rawInt pos.col, .ref c']) (tabObj ps) = tabObj (ps ++ #[rawInt pos.line, rawInt pos.col, .ref c']) := by
      show ({ cls := Value.none, data := Data.fields (if (codeAmong pos ps.toList).isSome = true then ps else ps ++ #[rawInt pos.line, rawInt pos.col, .ref c']) } : Obj) = _
      rw [hnf]; rfl
    have hget := Heap.get?_update_self (h := h') (fun o => Obj.mapFields (fun vs => if (codeAmong pos vs.toList).isSome = true then vs else
      vs ++ #[rawInt pos.line, rawInt pos.col, .ref c']) o) hop' (by rw [hnew]; rfl)
    rw [hnew] at hget
    refine wpAny_bind (wpAny_fieldsOf hget rfl ?_)
    have hl : (ps ++ #[rawInt pos.line, rawInt pos.col, Value.ref c']).toList = ps.toList ++ [rawInt pos.line, rawInt pos.col, .ref c'] := by simp
    rw [hl, codeAmong_snoc _ ht hnf]
    refine wpAny_pure (hQ _ _ _ (ps ++ #[rawInt pos.line, rawInt pos.col, .ref c']) (fun b o' hb e => ((Heap.SameBut.update ..).extBut b o' hb (hk b o' e))) hget (by rw [hl]; exact TriplesOk_snoc _ _ _ _ ht))
end
end Mine
end
section
open PySem PySem.W PySem.Calls PyProof.Rows
set_option maxRecDepth 100000
namespace Mine
section
variable {prog : Program} {w : World} {A : Around} {s : Shared} {env : Env} {h₀ : Heap}
/-- a turn of a loop over a range has come to its end; generators may have been made -/
def TurnEndR (h₀ : Heap) (L I : Addr) (oI : Obj) (Jn : (Str → Option Value) → List (Addr × Obj) → Array GenState → Prop) (s₁ : Shared) (f : Flow) (s₂ : Shared) : Prop :=
  f = .next ∧ s₂.drawn = s₁.drawn ∧ s₂.os = s₁.os ∧ ∃ m₂ news₂, Fr h₀ L s₂.heap m₂ ∧ News h₀ L s₂.heap ((I, oI) :: news₂) ∧ (∀ p ∈ news₂, p.1 ≠ I) ∧ Jn m₂ news₂ s₂.gens
abbrev rgIt (x left step : Int) : Obj := { cls := .type "range_iterator", data := .fields #[rawInt x, rawInt left, rawInt step] }
theorem codeAny_forLoop_R {R : Result → Shared → Prop} {x : Str} {px : Pos} {body : List Stmt} {I : Addr} {a : Int} {n : Nat} {m : Str → Option Value} {news : List (Addr × Obj)} (hh : A.handled = none) (hx : env.kindOf x = some .local)
    (hp : (env.scope.kind == .class || (env.scope.kind == .module && env.locals != env.globals)) = false)
    (hLf : env.locals ≠ I) (hfp : h₀.get? I = none) (hnw : ∀ p ∈ news, p.1 ≠ I)
    (hst : IsRangeIter s.heap I a n 1) (F : Fr h₀ env.locals s.heap m) (N : News h₀ env.locals s.heap news)
    (J : Nat → (Str → Option Value) → List (Addr × Obj) → Array GenState → Prop) (h0 : J 0 m news s.gens)
    (step : ∀ i t m₁ news₁ (s₁ : Shared) oI, i < n → J i m₁ news₁ s₁.gens → (∀ p ∈ news₁, p.1 ≠ I) →
      Fr h₀ env.locals s₁.heap (fun y => if y = x then some (.int (a + i) t) else m₁ y) → News h₀ env.locals s₁.heap ((I, oI) :: news₁) →
      wpAny (model prog w) A (execs body env) (TurnEndR h₀ env.locals I oI (J (i + 1)) s₁) (notedBy (model prog w) A env fun e s' => R (.error e) s') s₁)
    (hR : ∀ s' m' news', s'.drawn = s.drawn → s'.os = s.os → Fr h₀ env.locals s'.heap m' → News h₀ env.locals s'.heap news' → (∀ p ∈ news', p.1 ≠ I) → J n m' news' s'.gens → R (.ok .next) s') :
    codeAny (model prog w) A (.forLoop (.Name x px) (.ref I) body [] env) R s := by
  have old : ∀ b o, h₀.get? b = some o → b ≠ I := fun b o e hb => by rw [hb, hfp] at e; cases e
  have W := Walks.range (prog := prog) (w := w) hh I a 1 n
  refine codeAny_forLoop
    (fun k s' => ∃ m' news' i, IsRangeIter s'.heap I (a + (i : Nat) * 1) ((n : Int) - (i : Nat)) 1 ∧ s'.drawn = s.drawn ∧ s'.os = s.os ∧ Fr h₀ env.locals s'.heap m' ∧ News h₀ env.locals s'.heap news' ∧ (∀ p ∈ news', p.1 ≠ I) ∧ J i m' news' s'.gens ∧ i ≤ n ∧ k = n + 1 - i) ?_ (n + 1)
    ⟨m, news, 0, by simpa using hst, rfl, rfl, F, N, hnw, h0, Nat.zero_le _, rfl⟩
  rintro k s' ⟨m', news', i, hst', hdr, hos, F', N', hnw', hJ, hi, rfl⟩
  have next : ∀ h₁ : Heap, (∀ b o, b ∉ [I] → s'.heap.get? b = some o → h₁.get? b = some o) → Fr h₀ env.locals h₁ m' ∧ News h₀ env.locals h₁ news' := fun h₁ hk₁ =>
    ⟨⟨F'.ns.at' fun o e => hk₁ _ o (by simpa using hLf) e, fun b o e => hk₁ b o (by simpa using old b o e) (F'.keep b o e), F'.above⟩, fun p hp => ⟨hk₁ _ _ (by simpa using hnw' p hp) (N' p hp).1, (N' p hp).2⟩⟩
  by_cases hlt : i < n
  · refine W.item i _ _ _ hlt hst' fun v h₁ tk₁ hPv hst₁ hk₁ => ?_
    obtain ⟨t, rfl⟩ := hPv
    obtain ⟨F₁, N₁⟩ := next h₁ hk₁
    refine wpAny_assign_Name (wpAny_storeName_local hx F₁.ns (fun h₂ hn₂ hs₂ => ?_) hp)
    have F₂ := F₁.set hn₂ hs₂
    have hst₂ : IsRangeIter h₂ I (a + ((i + 1 : Nat) : Nat) * 1) ((n : Int) - ((i + 1 : Nat) : Nat)) 1 := (hs₂.2 I (Ne.symm hLf)).trans hst₁
    obtain ⟨oI, hoI⟩ : ∃ oI, h₂.get? I = some oI := ⟨_, hst₂⟩
    have e1 : a + (i : Nat) * 1 = a + (i : Int) := by omega
    rw [e1] at F₂
    refine wpAny_mono (step i t m' news' _ oI hlt hJ hnw' F₂ (fun p hp => ?_)) (fun f s₃ h₃ => ?_) fun _ _ e => e
    · rcases List.mem_cons.mp hp with rfl | hp
      · exact ⟨hoI, Ne.symm hLf, hfp⟩
      · exact N₁.set hs₂ p hp
    obtain ⟨rfl, hdr₃, hos₃, m₂, news₂, F₃, N₃, ha₃, hJ₃⟩ := h₃
    have hI₃ := (N₃ (I, oI) (.head _)).1
    have hst₃ : IsRangeIter s₃.heap I (a + ((i + 1 : Nat) : Nat) * 1) ((n : Int) - ((i + 1 : Nat) : Nat)) 1 := by
      have h5 : h₂.get? I = _ := hst₂
      rw [hoI] at h5
      exact hI₃.trans h5
    exact ⟨n + 1 - (i + 1), by omega, m₂, news₂, i + 1, hst₃, hdr₃.trans hdr, hos₃.trans hos, F₃, fun p hp => N₃ p (.tail _ hp), ha₃, hJ₃, hlt, rfl⟩
  · have hin : i = n := by omega
    subst hin
    refine W.done _ _ _ hst' fun h₁ tk₁ hk₁ => wpAny_execs_nil ?_
    obtain ⟨F₁, N₁⟩ := next h₁ hk₁
    exact hR _ m' news' hdr hos F₁ N₁ hnw' hJ

/-- what stands behind the iter of a for over a range -/
def LoopAtR (prog : Program) (w : World) (A : Around) (h₀ : Heap) (env : Env) (x : Str) (body : List Stmt) (Q : Flow → Shared → Prop) (E : Value → Shared → Prop) (it : Value) (s₂ : Shared) : Prop :=
  ∃ (I : Addr) (a : Int) (n : Nat) (m : Str → Option Value) (news : List (Addr × Obj)) (J : Nat → (Str → Option Value) → List (Addr × Obj) → Array GenState → Prop),
    it = .ref I ∧ IsRangeIter s₂.heap I a n 1 ∧ env.locals ≠ I ∧ h₀.get? I = none ∧ (∀ p ∈ news, p.1 ≠ I) ∧ Fr h₀ env.locals s₂.heap m ∧ News h₀ env.locals s₂.heap news ∧ J 0 m news s₂.gens ∧
    (∀ i t m₁ news₁ (s₁ : Shared) oI, i < n → J i m₁ news₁ s₁.gens → (∀ p ∈ news₁, p.1 ≠ I) →
      Fr h₀ env.locals s₁.heap (fun y => if y = x then some (.int (a + i) t) else m₁ y) → News h₀ env.locals s₁.heap ((I, oI) :: news₁) →
      wpAny (model prog w) A (execs body env) (TurnEndR h₀ env.locals I oI (J (i + 1)) s₁) E s₁) ∧
    ∀ s' m' news', s'.drawn = s₂.drawn → s'.os = s₂.os → Fr h₀ env.locals s'.heap m' → News h₀ env.locals s'.heap news' → (∀ p ∈ news', p.1 ≠ I) → J n m' news' s'.gens → Q .next s'
theorem For_R {E : Value → Shared → Prop} {Q : Flow → Shared → Prop} {x : Str} {px pos : Pos} {iter : Expr} {body : List Stmt} (h₀ : Heap) (hh : A.handled = none) (hx : env.kindOf x = some .local)
    (hp : (env.scope.kind == .class || (env.scope.kind == .module && env.locals != env.globals)) = false)
    (h : wpAny (model prog w) A (eval iter env) (fun xv s₁ => wpAny (model prog w) A (pyIter xv) (fun it s₂ => LoopAtR prog w A h₀ env x body Q E it s₂) E s₁) E s)
    (hs : ∀ x, foldedSetIterable iter env x = pure x := by intro _; rfl)
    (hE : PassesOwn (model prog w) A env E := by passes_own) :
    wpAny (model prog w) A (exec (.For (.Name x px) iter body [] pos) env) Q E s := by
  refine wpAny_For (wpAny_mono h (fun xv s₁ h₁ => wpAny_mono h₁ (fun it s₂ h₂ => ?_) fun _ _ e => e) fun _ _ e => e) hs
  obtain ⟨I, a, n, m, news, J, rfl, hst, hLf, hfp, hnw, F, N, h0, step, hQ⟩ := h₂
  exact codeAny_forLoop_R (R := fun r s' => match r with | .ok f => Q f s' | .error e => cameBackBy (model prog w) A env E e s') hh hx hp hLf hfp hnw hst F N J h0 (by intros; exact wpAny_passesOwn hE (by apply step <;> assumption)) hQ
/-- a range about to be walked -/
theorem iter_R {L : Addr} {h₀ : Heap} {m : Str → Option Value} {news : List (Addr × Obj)} {r : Addr} {a b : Int} {t u v : Tok} {Q E : Value → Shared → Prop} (F : Fr h₀ L s.heap m) (N : News h₀ L s.heap news)
    (hr : IsRange s.heap r a b 1 t u v) (ha : -(2 ^ 62) ≤ a) (ha' : a < 2 ^ 62) (hb : -(2 ^ 62) ≤ b) (hb' : b < 2 ^ 62)
    (h : ∀ I h' , IsRangeIter h' I a (((b - a).toNat : Nat) : Int) 1 → L ≠ I → h₀.get? I = none → (∀ p ∈ news, p.1 ≠ I) → s.heap.get? I = none → (∀ c o, s.heap.get? c = some o → h'.get? c = some o) → Fr h₀ L h' m → News h₀ L h' news → Q (.ref I) { s with heap := h' }) :
    wpAny (model prog w) A (pyIter (.ref r)) Q E s := by
  refine wpAny_pyIter_range hr (small_one ha ha' hb hb') ?_
  have hlt : ∀ {b : Addr} {o : Obj}, s.heap.get? b = some o → b ≠ s.heap.objs.size := fun e => Nat.ne_of_lt (Heap.lt_size e)
  have hnone : s.heap.get? s.heap.objs.size = none := by
    cases q : s.heap.get? s.heap.objs.size with
    | none => rfl
    | some o => exact absurd rfl (hlt q)
  have hsz : Builtin.Range.rangeSize a b 1 = ((b - a).toNat : Nat) := by rw [rangeSize_one]; split <;> omega
  refine h _ _ ?_ ?_ ?_ (fun p hp => hlt (N p hp).1) hnone (fun c o e => Heap.get?_push_of_some _ e) (F.push _) (fun p hp => ⟨Heap.get?_push_of_some _ (N p hp).1, (N p hp).2⟩)
  · rw [← hsz]; exact Heap.get?_push_size _ rfl
  · obtain ⟨oL, _, _, hL, _⟩ := F.ns
    exact hlt hL
  · cases q : h₀.get? s.heap.objs.size with
    | none => rfl
    | some o => exact absurd rfl (hlt (F.keep _ _ q))
end
end Mine
end
section
open PySem PySem.W PySem.Calls PyProof.Rows
namespace Mine
local macro_rules | `(tactic| walk_at "ZZ0") => `(tactic| skip)
local macro_rules | `(tactic| walk_at "ZZ1") => `(tactic| skip)
local macro_rules | `(tactic| walk_at "ZZ2") => `(tactic| skip)
local macro_rules | `(tactic| walk_at "ZZ3") => `(tactic| skip)
local macro_rules | `(tactic| walk_at "ZZ4") => `(tactic| skip)
local macro_rules | `(tactic| walk_at "ZZ5") => `(tactic| skip)
local macro_rules | `(tactic| walk_at "ZZ6") => `(tactic| skip)
local macro_rules | `(tactic| walk_at "ZZ7") => `(tactic| skip)
local macro_rules | `(tactic| walk_at "ZZ8") => `(tactic| skip)
local macro_rules | `(tactic| walk_at "ZZ9") => `(tactic| skip)
local macro_rules | `(tactic| walk_at "ZZ10") => `(tactic| skip)
local macro_rules | `(tactic| walk_at "ZZ11") => `(tactic| skip)
local macro_rules | `(tactic| walk_at "ZZ12") => `(tactic| skip)
local macro_rules | `(tactic| walk_at "ZZ13") => `(tactic| skip)
local macro_rules | `(tactic| walk_at "ZZ14") => `(tactic| skip)
local macro_rules | `(tactic| walk_at "ZZ15") => `(tactic| skip)
local macro_rules | `(tactic| walk_at "ZZ16") => `(tactic| skip)
local macro_rules | `(tactic| walk_at "ZZ17") => `(tactic| skip)
local macro_rules | `(tactic| walk_at "ZZ18") => `(tactic| skip)
local macro_rules | `(tactic| walk_at "ZZ19") => `(tactic| skip)
local macro_rules | `(tactic| walk_at "ZZ20") => `(tactic| skip)
local macro_rules | `(tactic| walk_at "ZZ21") => `(tactic| skip)
local macro_rules | `(tactic| walk_at "ZZ22") => `(tactic| skip)
local macro_rules | `(tactic| walk_at "ZZ23") => `(tactic| skip)
local macro_rules | `(tactic| walk_at "ZZ24") => `(tactic| skip)
local macro_rules | `(tactic| walk_at "ZZ25") => `(tactic| skip)
local macro_rules | `(tactic| walk_at "ZZ26") => `(tactic| skip)
local macro_rules | `(tactic| walk_at "ZZ27") => `(tactic| skip)
local macro_rules | `(tactic| walk_at "ZZ28") => `(tactic| skip)
local macro_rules | `(tactic| walk_at "ZZ29") => `(tactic| skip)
theorem rs3 {M : Model} {A : Around} {E : Value → Shared → Prop} {s : Shared} {env : Env} {pos : Pos} {Q : Flow → Shared → Prop} (h : wpAny M A (exec (.Pass pos) env) Q E s) : wpAny M A (exec (.Pass pos) env) Q E s := by
  w_top off
  first | (walk1; fail) | exact h
end Mine
end
section
open PySem PySem.W PySem.Calls PyProof.Rows
set_option maxRecDepth 100000
set_option maxHeartbeats 4000000
set_option rowWalk.seconds 0
namespace Mine
local macro_rules | `(tactic| k_all) => `(tactic| assumption)
def Valid (ns : List Int) : Prop := (ns.length : Int) - ns.sum.fdiv 2 = 1 ∧ ns.sum.fmod 2 = 0 ∧ (ns.length = 1 ∨ ∀ x ∈ ns, 1 ≤ x)
theorem sub_skip {α : Type} {a b : α} {l : List α} : ∀ p ∈ a :: l, p ∈ a :: b :: l := fun p hp => by
  rcases List.mem_cons.mp hp with q | q
  · exact q ▸ .head _
  · exact .tail _ (.tail _ q)
theorem news_sub' {h₀ h : Heap} {L : Addr} {l l' : List (Addr × Obj)} (N : News h₀ L h l) (hs : ∀ p ∈ l', p ∈ l) : News h₀ L h l' := fun p hp => N p (hs p hp)
theorem valid_no1 {ns : List Int} (h : (ns.length : Int) - ns.sum.fdiv 2 ≠ 1) : (false = true) ↔ Valid ns := ⟨fun e => (by cases e), fun v => absurd v.1 h⟩
theorem valid_no2 {ns : List Int} (h : ns.sum.fmod 2 ≠ 0) : (false = true) ↔ Valid ns := ⟨fun e => (by cases e), fun v => absurd v.2.1 h⟩
theorem valid_no3 {ns : List Int} {M : Int} (hl : (ns.length : Int) ≠ 1) (hm : M ∈ ns) (h : M < 1) : (false = true) ↔ Valid ns := ⟨fun e => (by cases e), fun v => by
  rcases v.2.2 with q | q
  · exact absurd (by rw [q]; rfl) hl
  · exact absurd (q M hm) (by omega)⟩
theorem valid_yes3 {ns : List Int} {M : Int} (h1 : (ns.length : Int) - ns.sum.fdiv 2 = 1) (h2 : ns.sum.fmod 2 = 0) (hm : ∀ a ∈ ns, M ≤ a) (h : ¬ M < 1) : (true = true) ↔ Valid ns := ⟨fun _ => ⟨h1, h2, .inr fun x hx => by have := hm x hx; omega⟩, fun _ => rfl⟩
theorem valid_yes4 {ns : List Int} (h1 : (ns.length : Int) - ns.sum.fdiv 2 = 1) (h2 : ns.sum.fmod 2 = 0) (h : (ns.length : Int) = 1) : (true = true) ↔ Valid ns := ⟨fun _ => ⟨h1, h2, .inl (by omega)⟩, fun _ => rfl⟩
theorem valid_pos {ns : List Int} (h : (ns.length : Int) - ns.sum.fdiv 2 = 1) : 0 < ns.length := by
  cases ns with
  | nil => revert h; decide
  | cons a r => simp
theorem valid_spec {w : World} {mean : ExcName → Option Value} {mg mb : Str → Option Value} {gd : Option (List Code)} {cn : Str} {nms : List (Str × NameKind)} {sg sc : Bool} {mo : List (Str × Const)} {a : Addr} {ccd : Value} {cl : List (Str × Addr)} {outer : List Env} {A₀ : Around} {base h₀ : Heap} {L : Addr} {m : Str → Option Value} {rest : List (Addr × Obj)} {s : Shared}
    {Q E : Value → Shared → Prop} {r : Addr} {vs : List Value} {ns : List Int} {nr : Nat}
    (B : Below A₀ base outer h₀) (F : Fr h₀ L s.heap m) (X : (hd.heap_39 w.params).In h₀) (N : News h₀ L s.heap ((r, listOf vs.toArray nr) :: rest)) (T : Top TP LS mean mg mb h₀) (hi : IntsAre vs ns) (hlen : ns.length ≤ 11)
    (h : ∀ h' tk t x xt b, Fr h₀ L h' m → News h₀ L h' ((t, { cls := .type "tuple", data := .seq #[.bool b, .str x xt] }) :: (r, listOf vs.toArray nr) :: rest) → (r < t ∧ AllLt t rest) → (b = true ↔ Valid ns) → Q (.ref t) { s with heap := h', toks := tk }) :
    wpAny (model PP w) (ktrTop 303 10 gd cn { kind := .function, names := nms, isGenerator := sg, isCoroutine := sc, more := mo } L a ccd cl outer) (call (.ref 656) [.ref r]) Q E s := by
  refine of_mk ?_
  k_fill
  intro _
  by_cases h0 : 0 < ns.length
  · k_steps
    all_goals refine h _ _ _ _ _ _ (by k_asm) (news_sub' (by k_asm) sub_skip) (And.right (by assumption)) ?_
    · exact valid_no1 (by assumption)
    · exact valid_no2 (by assumption)
    · exact valid_no3 (by assumption) (by assumption) (by assumption)
    · exact valid_yes3 (by assumption) (by assumption) (by assumption) (by assumption)
    · exact valid_yes4 (by assumption) (by assumption) (by assumption)
  · k_steps
    · refine h _ _ _ _ _ _ (by k_asm) (news_sub' (by k_asm) sub_skip) (And.right (by assumption)) ?_
      exact valid_no1 (by assumption)
    all_goals exact absurd (valid_pos (by assumption)) h0
end Mine
end
section
open PySem PySem.W PySem.Calls PyProof.Rows
namespace Mine
local macro_rules | `(tactic| walk_at "ZZ0") => `(tactic| skip)
local macro_rules | `(tactic| walk_at "ZZ1") => `(tactic| skip)
local macro_rules | `(tactic| walk_at "ZZ2") => `(tactic| skip)
local macro_rules | `(tactic| walk_at "ZZ3") => `(tactic| skip)
local macro_rules | `(tactic| walk_at "ZZ4") => `(tactic| skip)
local macro_rules | `(tactic| walk_at "ZZ5") => `(tactic| skip)
local macro_rules | `(tactic| walk_at "ZZ6") => `(tactic| skip)
local macro_rules | `(tactic| walk_at "ZZ7") => `(tactic| skip)
local macro_rules | `(tactic| walk_at "ZZ8") => `(tactic| skip)
local macro_rules | `(tactic| walk_at "ZZ9") => `(tactic| skip)
local macro_rules | `(tactic| walk_at "ZZ10") => `(tactic| skip)
local macro_rules | `(tactic| walk_at "ZZ11") => `(tactic| skip)
local macro_rules | `(tactic| walk_at "ZZ12") => `(tactic| skip)
local macro_rules | `(tactic| walk_at "ZZ13") => `(tactic| skip)
local macro_rules | `(tactic| walk_at "ZZ14") => `(tactic| skip)
local macro_rules | `(tactic| walk_at "ZZ15") => `(tactic| skip)
local macro_rules | `(tactic| walk_at "ZZ16") => `(tactic| skip)
local macro_rules | `(tactic| walk_at "ZZ17") => `(tactic| skip)
local macro_rules | `(tactic| walk_at "ZZ18") => `(tactic| skip)
local macro_rules | `(tactic| walk_at "ZZ19") => `(tactic| skip)
local macro_rules | `(tactic| walk_at "ZZ20") => `(tactic| skip)
local macro_rules | `(tactic| walk_at "ZZ21") => `(tactic| skip)
local macro_rules | `(tactic| walk_at "ZZ22") => `(tactic| skip)
local macro_rules | `(tactic| walk_at "ZZ23") => `(tactic| skip)
local macro_rules | `(tactic| walk_at "ZZ24") => `(tactic| skip)
local macro_rules | `(tactic| walk_at "ZZ25") => `(tactic| skip)
local macro_rules | `(tactic| walk_at "ZZ26") => `(tactic| skip)
local macro_rules | `(tactic| walk_at "ZZ27") => `(tactic| skip)
local macro_rules | `(tactic| walk_at "ZZ28") => `(tactic| skip)
local macro_rules | `(tactic| walk_at "ZZ29") => `(tactic| skip)
theorem rs4 {M : Model} {A : Around} {E : Value → Shared → Prop} {s : Shared} {env : Env} {pos : Pos} {Q : Flow → Shared → Prop} (h : wpAny M A (exec (.Pass pos) env) Q E s) : wpAny M A (exec (.Pass pos) env) Q E s := by
  w_top off
  first | (walk1; fail) | exact h
end Mine
end
section
open PySem PySem.W PySem.Calls PyProof.Rows
set_option maxRecDepth 100000
set_option maxHeartbeats 8000000
set_option rowWalk.seconds 0
namespace Mine
theorem For_EF {prog : Program} {w : World} {A : Around} {s : Shared} {env : Env} {h₀ : Heap} {L : Addr} {m : Str → Option Value} {E : Value → Shared → Prop} {Q : Flow → Shared → Prop} {x : Str} {px pos : Pos} {iter : Expr} {body : List Stmt} (_F : Fr h₀ L s.heap m) (hx : env.kindOf x = some .local)
    (hp : (env.scope.kind == .class || (env.scope.kind == .module && env.locals != env.globals)) = false)
    (h : wpAny (model prog w) A (eval iter env) (fun xv s₁ => wpAny (model prog w) A (pyIter xv) (fun it s₂ => LoopAtE prog w A h₀ env x body Q E it s₂) E s₁) E s)
    (hs : ∀ x, foldedSetIterable iter env x = pure x := by intro _; rfl)
    (hE : PassesOwn (model prog w) A env E := by passes_own) :
    wpAny (model prog w) A (exec (.For (.Name x px) iter body [] pos) env) Q E s := For_E h₀ hx hp h hs hE
abbrev DEg (w : World) (t1 t2 t3 : Tok) (ga na aa : Addr) : List DictEntry := [⟨PyData.keyHash w.params (Str.ofString "graph"), .str (Str.ofString "graph") t1, .ref ga⟩, ⟨PyData.keyHash w.params (Str.ofString "_node"), .str (Str.ofString "_node") t2, .ref na⟩, ⟨PyData.keyHash w.params (Str.ofString "_adj"), .str (Str.ofString "_adj") t3, .ref aa⟩]
local macro_rules | `(tactic| walk_at "VANONE") => `(tactic| first | assumption | exact (va_stored_new_ne _ _ (by assumption) (by assumption)).trans (by assumption) | rfl)
local macro_rules | `(tactic| walk_at "VALEN") => `(tactic| first | assumption | exact Nat.le_trans (Nat.le_of_eq (len_stored_new _ _ (by assumption))) (by assumption))
local macro_rules | `(tactic| walk_at "VAGET") => `(tactic| first | assumption | exact va_get_ne (by walk_at "VANONE") (by assumption) (by first | assumption | exact va_stored_new_self _ _ (by walk_at "VANONE")) | exact va_stored_new_self _ _ (by walk_at "VANONE"))
local macro_rules | `(tactic| walk_at "exec For Name Name cons nil") => `(tactic| (k_here; (rename Fr _ _ _ _ => lF'); (with_unfolding_all refine' For_EF lF' ?k1 ?k2 ?_; (case k1 => exact rfl); (case k2 => exact rfl); k_whole)))
local macro_rules | `(tactic| k_all) => `(tactic| assumption)
local macro_rules | `(tactic| walk_at "compareOp NotIn int ref") => `(tactic| (k_here; k_dflt (refine kdg_notin (knd := PySem.intKind _ _) (by k_asm) (by k_mem) (by k_asm) (by k_asm) (intKind_is _ _ _ _) _ (by first | assumption | exact (congrArg Option.isSome (va_stored_new_ne _ _ (by assumption) (by assumption))).trans (by assumption)) ?_); (try dsimp only [Bool.not_true, Bool.not_false])))
local macro_rules | `(tactic| walk_at "setItem ref int") => `(tactic| (k_here; k_dflt (refine' kda_set (knd := PySem.intKind _ _) ?F ?N ?U ?d (intKind_is _ _ _ _) ?z ?_; (case F => k_asm); (case N => k_asm); (case U => k_updF); (case d => k_asm); (case z => walk_at "VALEN")); intro h' o' F' N' hd'; (try dsimp only at N')))
local macro_rules | `(tactic| walk_at "subscriptTail") => `(tactic| (k_here; k_dflt (refine kdt_tail (knd := PySem.intKind _ _) (by k_asm) (by k_mem) (by k_asm) ?_)))
local macro_rules | `(tactic| walk_at "getItem ref int") => `(tactic| (k_here; k_dflt (refine kdt_getItem (knd := PySem.intKind _ _) (by k_asm) (by k_mem) (by k_asm) (intKind_is _ _ _ _) (by walk_at "VAGET") ?_)))
local macro_rules | `(tactic| walk_at "getMethod ref") => `(tactic| (k_here; (with_reducible show wpAny _ _ (getMethod (Value.ref _) (Str.ofString "get") _) _ _ _); k_dflt (refine kdg_method (knd := PySem.intKind _ _) (by k_asm) (by k_mem) (by k_asm) ?_)))
local macro_rules | `(tactic| walk_at "getMethod ref") => `(tactic| (k_here; (with_reducible show wpAny _ _ (getMethod (Value.ref _) (Str.ofString "update") _) _ _ _); k_dflt (first | (refine' getMethod_tab_any (knd := PySem.strKind _ _) (enc := PyData.str) ?k1 ?k2 ?_; (case k1 => exact rfl); (case k2 => k_tabat); k_whole) | (refine' getMethod_tab_any (knd := PySem.intKind _ _) (enc := PyData.int) ?k1 ?k2 ?_; (case k1 => exact rfl); (case k2 => k_tabat); k_whole))))
local macro_rules | `(tactic| walk_at "getMethod ref") => `(tactic| (k_here; (first | (with_reducible show wpAny _ _ (getMethod (Value.ref _) (Str.ofString "adjlist_inner_dict_factory") _) _ _ _) | (with_reducible show wpAny _ _ (getMethod (Value.ref _) (Str.ofString "node_attr_dict_factory") _) _ _ _) | (with_reducible show wpAny _ _ (getMethod (Value.ref _) (Str.ofString "edge_attr_dict_factory") _) _ _ _)); k_dflt (refine' method_inst ?k1 ?k2 ?k3 ?k4 ?k5 ?k6 ?k7 ?_; (case k1 => k_asm); (case k2 => k_asm); (case k3 => k_inst); (case k4 => k_is); (case k5 => k_is); (case k6 => k_is); (case k7 => k_get); k_whole)))
local macro_rules | `(tactic| walk_at "callWith ref") => `(tactic| (k_here; k_dflt (refine' callWith_K0 ?k1 ?k2 ?_; (case k1 => first | with_reducible assumption | exact Frag.In.keeps (by with_reducible assumption) (Fr.keep (by with_reducible assumption))); (case k2 => k_is); k_whole)))
local macro_rules | `(tactic| walk_at "call builtin:dict.get") => `(tactic| (k_here; k_dflt (refine kdg_get2 (knd := PySem.intKind _ _) (by k_asm) (by k_mem) (by k_asm) (by k_asm) (intKind_is _ _ _ _) none (by walk_at "VANONE") ?_); (try dsimp only [Option.getD])))
local macro_rules | `(tactic| walk_at "MEMS") => `(tactic| (intro p hp; repeat' (first | exact hp | refine List.Mem.tail _ ?_)))
local macro_rules | `(tactic| walk_at "MAPS") => `(tactic| (intro z hz; obtain ⟨z1, z2, z3, z4, z5, z6⟩ := names_ne hz; simp only [if_neg z1, if_neg z2, if_neg z3, if_neg z4, if_neg z5, if_neg z6, hz, Bool.false_eq_true, if_false]))

section
/-- what hands an iterator of edges out: the pairs ed 0 .. ed (n - 1) -/
def EdgeSrc (w : World) (gens₀ : Array GenState) (it : Addr) (sr : List (Addr × Obj)) (wr0 : List Addr) (n : Nat) (ed : Nat → Int × Int) (Go : Array GenState → Prop) : Prop :=
  ∀ (A' : Around) (E' Q' : Value → Shared → Prop) (s₁ : Shared), A'.handled = none → A'.depth < 600 → (∀ p ∈ sr, s₁.heap.get? p.1 = some p.2) → s₁.heap.NoLimit → s₁.gens = gens₀ →
    (∀ I fp wr gn St s₂, EdgeIt PP w A' I fp wr gn n ed St → (∀ b ∈ fp, b ∈ sr.map (·.1) ∨ s₁.heap.get? b = none) → (∀ b ∈ wr, b ∈ wr0 ∨ s₁.heap.get? b = none) → (∀ i s, St i s → ∀ b ∈ fp, ∃ o, s.heap.get? b = some o) →
      (∀ gs, GIn gn gens₀ gs → Go gs) → St 0 s₂ → (∀ b o, s₁.heap.get? b = some o → s₂.heap.get? b = some o) → s₂.gens = gens₀ → s₂.drawn = s₁.drawn → s₂.os = s₁.os → Q' (.ref I) s₂) →
    wpAny (model PP w) A' (pyIter (.ref it)) Q' E' s₁
end
theorem addE_spec {w : World} {mean : ExcName → Option Value} {mg mb : Str → Option Value} {gd : Option (List Code)} {cn : Str} {nms : List (Str × NameKind)} {sg sc : Bool} {mo : List (Str × Const)} {a : Addr} {ccd : Value} {cl : List (Str × Addr)} {outer : List Env} {A₀ : Around} {base h₀ : Heap} {L : Addr} {m : Str → Option Value} {rest src sr : List (Addr × Obj)} {s : Shared}
    {Q E : Value → Shared → Prop} {g d ga na aa it : Addr} {t1 t2 t3 : Tok} {dn : Nat} {on oa : Obj} {tl : List (Addr × Obj)} {nks aks : List (Int × Value)} {adj : List (Int × List Int)} {wr0 : List Addr} {n : Nat} {ed : Nat → Int × Int} {Go : Array GenState → Prop}
    (B : Below A₀ base outer h₀) (F : Fr h₀ L s.heap m) (X : (hd.heap_39 w.params).In h₀) (N : News h₀ L s.heap ((g, instObj 629 d) :: (d, dictOf (DEg w t1 t2 t3 ga na aa) dn) :: (na, on) :: (aa, oa) :: (tl ++ (rest ++ src)))) (T : Top TP LS mean mg mb h₀)
    (hnd : (g :: d :: na :: aa :: (tl ++ (rest ++ src)).map (·.1)).Nodup) (hon : on.IsDictOf (PySem.intKind PP w) nks) (hoa : oa.IsDictOf (PySem.intKind PP w) aks) (hnk : nks.map (·.1) = adj.map (·.1)) (hinn : Inn (prog := PP) w tl aks adj) (hak : (adj.map (·.1)).Nodup) (hcl0 : Closed adj)
    (hln : (na == sysModules) = false) (hla : (aa == sysModules) = false) (hsrc : EdgeSrc w s.gens it sr wr0 n ed Go) (hsr : ∀ p ∈ sr, p ∈ rest ++ src) (hwr0 : ∀ b ∈ wr0, b ∈ src.map (·.1)) (hsize : adj.length + 2 * n ≤ 1000)
    (hed : ∀ i, i < n → (ed i).1 ≠ (ed i).2 ∧ (ed i).2 ∉ (((List.range i).map ed).foldl addE adj).map (·.1))
    (h : ∀ s' on' oa' nks' aks' tl', s'.drawn = s.drawn → s'.os = s.os → Go s'.gens → Fr h₀ L s'.heap m → News h₀ L s'.heap ((g, instObj 629 d) :: (d, dictOf (DEg w t1 t2 t3 ga na aa) dn) :: (na, on') :: (aa, oa') :: (tl' ++ rest)) →
      (g :: d :: na :: aa :: (tl' ++ rest).map (·.1)).Nodup → on'.IsDictOf (PySem.intKind PP w) nks' → oa'.IsDictOf (PySem.intKind PP w) aks' → nks'.map (·.1) = (((List.range n).map ed).foldl addE adj).map (·.1) → Inn (prog := PP) w tl' aks' (((List.range n).map ed).foldl addE adj) →
      ((((List.range n).map ed).foldl addE adj).map (·.1)).Nodup → Closed (((List.range n).map ed).foldl addE adj) → Q .none s') :
    wpAny (model PP w) (ktrTop 303 10 gd cn { kind := .function, names := nms, isGenerator := sg, isCoroutine := sc, more := mo } L a ccd cl outer) (call (.ref 504) [.ref g, .ref it]) Q E s := by
  refine of_mk ?_
  k_fill
  intro _
  k_steps
  rename_i D' o' g' L' h' tk lo' hs' fs' FG' F' N' B' X' T' l1'
  have hsrN : ∀ p ∈ sr, p ∈ (D', o') :: (g, instObj 629 d) :: (d, dictOf (DEg w t1 t2 t3 ga na aa) dn) :: (na, on) :: (aa, oa) :: (tl ++ (rest ++ src)) := fun p hp => by
    have := hsr p hp
    exact .tail _ (.tail _ (.tail _ (.tail _ (.tail _ (List.mem_append_right _ this)))))
  refine hsrc _ _ _ _ rfl (by decide : (303 + 1 : Nat) < 600) (fun p hp => (N' p (hsrN p hp)).1) ((Top.nolimit T').keeps F'.keep) rfl ?_
  intro I fp wr gn St s₂ W hfp hwr hlive hGo hst hkeep hgens hdrawn hos
  have hnd' := hnd
  simp only [List.map_append] at hnd'
  have hfpL : ∀ b ∈ fp, b ≠ L' ∧ g'.get? b = none := fun b hb => by
    rcases hfp b hb with h1 | h1
    · obtain ⟨p, hp, e⟩ := List.mem_map.mp h1
      have := N' p (hsrN p hp)
      exact e ▸ ⟨this.2.1, this.2.2⟩
    · refine ⟨fun e => ?_, ?_⟩
      · obtain ⟨oL, _, _, hL, _⟩ := F'.ns
        rw [e] at h1; rw [hL] at h1; cases h1
      · cases q : g'.get? b with
        | none => rfl
        | some o => rw [F'.keep b o q] at h1; cases h1
  have hdis : ∀ b ∈ (rest ++ src).map (·.1), b ∉ g :: d :: na :: aa :: tl.map (·.1) := fun b hb hm => by
    have hnd2 : ((g :: d :: na :: aa :: tl.map (·.1)) ++ (rest ++ src).map (·.1)).Nodup := by simpa using hnd
    exact (List.nodup_append.mp hnd2).2.2 b hm b hb rfl
  have hDlt : ∀ p ∈ (g, instObj 629 d) :: (d, dictOf (DEg w t1 t2 t3 ga na aa) dn) :: (na, on) :: (aa, oa) :: (tl ++ (rest ++ src)), p.1 < D' := allLt_mem (d := D') (l := (g, instObj 629 d) :: (d, dictOf (DEg w t1 t2 t3 ga na aa) dn) :: (na, on) :: (aa, oa) :: (tl ++ (rest ++ src))) l1'
  have hfpg0 : ∀ b ∈ fp, b ∉ g :: d :: na :: aa :: D' :: tl.map (·.1) := fun b hb hm => by
    rcases hfp b hb with h1 | h1
    · obtain ⟨p, hp, e⟩ := List.mem_map.mp h1
      have h2 := List.mem_map.mpr ⟨p, hsr p hp, e⟩
      have h3 := hdis b h2
      simp only [List.mem_cons] at hm h3
      have h4 : p.1 < D' := hDlt p (.tail _ (.tail _ (.tail _ (.tail _ (List.mem_append_right _ (hsr p hp))))))
      rcases hm with q | q | q | q | q | q
      · exact h3 (.inl q)
      · exact h3 (.inr (.inl q))
      · exact h3 (.inr (.inr (.inl q)))
      · exact h3 (.inr (.inr (.inr (.inl q))))
      · exact Nat.lt_irrefl _ ((e.trans q) ▸ h4)
      · exact h3 (.inr (.inr (.inr (.inr q))))
    · simp only [List.mem_cons] at hm
      have live : ∀ p, p ∈ (D', o') :: (g, instObj 629 d) :: (d, dictOf (DEg w t1 t2 t3 ga na aa) dn) :: (na, on) :: (aa, oa) :: (tl ++ (rest ++ src)) → p.1 ≠ b := fun p hp e => by
        have := (N' p hp).1
        rw [e] at this; rw [h1] at this; cases this
      rcases hm with q | q | q | q | q | q
      · exact live _ (.tail _ (.head _)) q.symm
      · exact live _ (.tail _ (.tail _ (.head _))) q.symm
      · exact live _ (.tail _ (.tail _ (.tail _ (.head _)))) q.symm
      · exact live _ (.tail _ (.tail _ (.tail _ (.tail _ (.head _))))) q.symm
      · exact live _ (.head _) q.symm
      · obtain ⟨p, hp, e⟩ := List.mem_map.mp q
        exact live p (.tail _ (.tail _ (.tail _ (.tail _ (.tail _ (List.mem_append_left _ hp)))))) e
  have hrw0 : ∀ p ∈ rest, p.1 ∉ wr := fun p hp hb => by
    rcases hwr _ hb with h1 | h1
    · have h2 := hwr0 _ h1
      have hnd2 : ((g :: d :: na :: aa :: (tl ++ rest).map (·.1)) ++ src.map (·.1)).Nodup := by simpa using hnd
      exact (List.nodup_append.mp hnd2).2.2 p.1 (.tail _ (.tail _ (.tail _ (.tail _ (List.mem_map.mpr ⟨p, List.mem_append_right _ hp, rfl⟩))))) p.1 h2 rfl
    · have := (N' p (.tail _ (.tail _ (.tail _ (.tail _ (.tail _ (List.mem_append_right _ (List.mem_append_left _ hp)))))))).1
      rw [h1] at this; cases this
  have hndL : (((g, instObj 629 d) :: (d, dictOf (DEg w t1 t2 t3 ga na aa) dn) :: (na, on) :: (aa, oa) :: (D', o') :: (tl ++ rest)).map (·.1)).Nodup := by
    have hnd2 : ((g :: d :: na :: aa :: (tl ++ rest).map (·.1)) ++ src.map (·.1)).Nodup := by simpa using hnd
    have hnd3 := (List.nodup_append.mp hnd2).1
    have hp : (g :: d :: na :: aa :: D' :: (tl ++ rest).map (·.1)).Perm (D' :: g :: d :: na :: aa :: (tl ++ rest).map (·.1)) := by
      simpa using List.perm_middle (a := D') (l₁ := [g, d, na, aa]) (l₂ := (tl ++ rest).map (·.1))
    refine hp.nodup_iff.mpr (List.nodup_cons.mpr ⟨fun hm => ?_, hnd3⟩)
    have : ∃ p ∈ (g, instObj 629 d) :: (d, dictOf (DEg w t1 t2 t3 ga na aa) dn) :: (na, on) :: (aa, oa) :: (tl ++ (rest ++ src)), p.1 = D' := by
      simp only [List.mem_cons] at hm
      rcases hm with q | q | q | q | q
      · exact ⟨_, .head _, q.symm⟩
      · exact ⟨_, .tail _ (.head _), q.symm⟩
      · exact ⟨_, .tail _ (.tail _ (.head _)), q.symm⟩
      · exact ⟨_, .tail _ (.tail _ (.tail _ (.head _))), q.symm⟩
      · obtain ⟨p, hp, e⟩ := List.mem_map.mp q
        refine ⟨p, .tail _ (.tail _ (.tail _ (.tail _ ?_))), e⟩
        rcases List.mem_append.mp hp with z | z
        · exact List.mem_append_left _ z
        · exact List.mem_append_right _ (List.mem_append_left _ z)
    obtain ⟨p, hp, e⟩ := this
    exact Nat.lt_irrefl _ (e ▸ hDlt p hp)
  obtain ⟨M, hM⟩ := fr_map F'
  refine ⟨I, fp, wr, gn, n, ed, St, _, (g, instObj 629 d) :: (d, dictOf (DEg w t1 t2 t3 ga na aa) dn) :: (na, on) :: (aa, oa) :: (D', o') :: (tl ++ rest),
    Jf PP w g d (DEg w t1 t2 t3 ga na aa) dn na aa D' o' rest M fp ed adj, rfl, Top.nolimit T', W, fun hm => (hfpL _ hm).1 rfl, fun b hb => (hfpL b hb).2, ?_, hlive, hst, F'.keeps hkeep, ?_, ⟨on, oa, nks, aks, tl, rfl, hndL, hfpg0, hon, hnk, hoa, hinn, hak, hcl0, fun z _ => (congrFun hM z).symm⟩, ?_, ?_⟩
  all_goals subst hM
  · intro p hp hb
    have h2 := hfpg0 _ (W.sub _ hb)
    simp only [List.mem_cons, List.mem_append] at hp h2
    rcases hp with q | q | q | q | q | q | q
    · exact h2 (.inl (by rw [q]))
    · exact h2 (.inr (.inl (by rw [q])))
    · exact h2 (.inr (.inr (.inl (by rw [q]))))
    · exact h2 (.inr (.inr (.inr (.inl (by rw [q])))))
    · exact h2 (.inr (.inr (.inr (.inr (.inl (by rw [q]))))))
    · exact h2 (.inr (.inr (.inr (.inr (.inr (List.mem_map.mpr ⟨p, q, rfl⟩))))))
    · exact hrw0 p q hb
  · intro p hp
    have : p ∈ (D', o') :: (g, instObj 629 d) :: (d, dictOf (DEg w t1 t2 t3 ga na aa) dn) :: (na, on) :: (aa, oa) :: (tl ++ (rest ++ src)) := by
      simp only [List.mem_cons, List.mem_append] at hp ⊢
      rcases hp with q | q | q | q | q | q | q
      · exact .inr (.inl q)
      · exact .inr (.inr (.inl q))
      · exact .inr (.inr (.inr (.inl q)))
      · exact .inr (.inr (.inr (.inr (.inl q))))
      · exact .inl q
      · exact .inr (.inr (.inr (.inr (.inr (.inl q)))))
      · exact .inr (.inr (.inr (.inr (.inr (.inr (.inl q))))))
    exact ⟨hkeep _ _ (N' p this).1, (N' p this).2⟩
  · have hrw := hrw0
    clear hkeep hgens hdrawn hos hst N F h hsrc hsrN hdis hDlt hfpg0 hrw0 hndL hfpL hnd hnd' hfp hwr l1'
    intro i t tu tv dd ep sl m₁ news₁ s₁ own hi hJ hnw htup F₁ N₁ hfo hown
    obtain ⟨on₁, oa₁, nks₁, aks₁, tl₁, rfl, hnd₁, hfpg, hon₁, hnk₁, hoa₁, hinn₁, hak₁, hcl, hm₁⟩ := hJ
    obtain ⟨hne, hv⟩ := hed i hi
    have hsz : (((List.range i).map ed).foldl addE adj).length + 2 ≤ 1000 := by
      have := foldE_len ed adj i
      omega
    rw [jf_succ]
    generalize ((List.range i).map ed).foldl addE adj = ai at *
    rw [show ed i = ((ed i).1, (ed i).2) from rfl]
    generalize (ed i).1 = u at *
    generalize (ed i).2 = v at *
    have hne' : v ≠ u := Ne.symm hne
    have htg : ∀ q ∈ (g, instObj 629 d) :: (d, dictOf (DEg w t1 t2 t3 ga na aa) dn) :: (na, on₁) :: (aa, oa₁) :: (D', o') :: tl₁, q.1 ≠ t := by
      intro q hq e
      rcases hown _ htup with h1 | h1
      · refine hfpg _ h1 (e ▸ ?_)
        have : q.1 ∈ ((g, instObj 629 d) :: (d, dictOf (DEg w t1 t2 t3 ga na aa) dn) :: (na, on₁) :: (aa, oa₁) :: (D', o') :: tl₁).map (·.1) := List.mem_map.mpr ⟨q, hq, rfl⟩
        exact this
      · refine h1 q ?_ e
        simp only [List.mem_cons, List.mem_append] at hq ⊢
        rcases hq with z | z | z | z | z | z
        · exact .inl z
        · exact .inr (.inl z)
        · exact .inr (.inr (.inl z))
        · exact .inr (.inr (.inr (.inl z)))
        · exact .inr (.inr (.inr (.inr (.inl z))))
        · exact .inr (.inr (.inr (.inr (.inr (.inl z)))))
    have hog : ∀ p ∈ own, ∀ q ∈ (g, instObj 629 d) :: (d, dictOf (DEg w t1 t2 t3 ga na aa) dn) :: (na, on₁) :: (aa, oa₁) :: (D', o') :: tl₁, p.1 ≠ q.1 := by
      intro p hp q hq e
      rcases hown p hp with h1 | h1
      · refine hfpg _ h1 (e ▸ ?_)
        have : q.1 ∈ ((g, instObj 629 d) :: (d, dictOf (DEg w t1 t2 t3 ga na aa) dn) :: (na, on₁) :: (aa, oa₁) :: (D', o') :: tl₁).map (·.1) := List.mem_map.mpr ⟨q, hq, rfl⟩
        exact this
      · refine h1 q ?_ e.symm
        simp only [List.mem_cons, List.mem_append] at hq ⊢
        rcases hq with z | z | z | z | z | z
        · exact .inl z
        · exact .inr (.inl z)
        · exact .inr (.inr (.inl z))
        · exact .inr (.inr (.inr (.inl z)))
        · exact .inr (.inr (.inr (.inr (.inl z))))
        · exact .inr (.inr (.inr (.inr (.inr (.inl z)))))
    have hndx := hnd₁
    simp only [List.map_cons, List.nodup_cons, List.mem_cons, not_or] at hndx
    obtain ⟨⟨n1, n2, n3, n4, n5⟩, ⟨n6, n7, n8, n9⟩, ⟨n10, n11, n12⟩, ⟨n13, n14⟩, n15, n16⟩ := hndx
    have F₂ := turn_fr hm₁ F₁
    have hz0 : ([] : List (Int × Value)).length ≤ sizeLine := Nat.zero_le _
    have lk1 : aks₁.length = ai.length := by have := congrArg List.length hinn₁.keys; simpa using this
    have lk2 : nks₁.length = ai.length := by have := congrArg List.length hnk₁; simpa using this
    have hz1 : aks₁.length ≤ sizeLine := by rw [sizeLine_eq]; omega
    have hz2 : nks₁.length ≤ sizeLine := by rw [sizeLine_eq]; omega
    have hz1' : aks₁.length + 1 ≤ sizeLine := by rw [sizeLine_eq]; omega
    have hz2' : nks₁.length + 1 ≤ sizeLine := by rw [sizeLine_eq]; omega
    have hvn : (valueAt nks₁ v).isSome = false := by rw [va_isSome, hnk₁]; exact decide_eq_false hv
    have hva : valueAt aks₁ v = none := (va_none_iff _ _).mpr (hinn₁.keys ▸ hv)
    by_cases hu : u ∈ ai.map (·.1)
    · have hun : (valueAt nks₁ u).isSome = true := by rw [va_isSome, hnk₁]; exact decide_eq_true hu
      obtain ⟨pre, post, iu, ou, kvs, ak1, ak2, adj1, adj2, rfl, rfl, rfl, hou, liu, hpre, hpost, hvu, hu1, hu2⟩ := hinn₁.split hu hak₁
      have hvk : valueAt kvs v = none := (va_none_iff _ _).mpr (closed_not (u := u) hcl (by simp) hv)
      have hz3 : kvs.length ≤ sizeLine := by
        have h1 := nbr_len hcl (show (u, kvs.map (·.1)) ∈ adj1 ++ (u, kvs.map (·.1)) :: adj2 by simp) (dict_keys_nodup hou)
        rw [List.length_map] at h1
        rw [sizeLine_eq]; omega
      have N₂ : News g' L' s₁.heap ((t, (⟨.type "tuple", dd, .seq #[.int u tu, .int v tv] ep, sl⟩ : Obj)) :: (g, instObj 629 d) :: (d, dictOf (DEg w t1 t2 t3 ga na aa) dn) :: (na, on₁) :: (aa, oa₁) :: (D', o') :: (iu, ou) :: (pre ++ (post ++ (rest ++ own)))) := by
        intro p hp
        refine N₁ p ?_
        simp only [List.mem_cons, List.mem_append] at hp ⊢
        rcases hp with z | z | z | z | z | z | z | z | z | z | z
        · exact .inr (z ▸ htup)
        · exact .inl (.inl z)
        · exact .inl (.inr (.inl z))
        · exact .inl (.inr (.inr (.inl z)))
        · exact .inl (.inr (.inr (.inr (.inl z))))
        · exact .inl (.inr (.inr (.inr (.inr (.inl z)))))
        · exact .inl (.inr (.inr (.inr (.inr (.inr (.inl (.inr (.inl z))))))))
        · exact .inl (.inr (.inr (.inr (.inr (.inr (.inl (.inl z)))))))
        · exact .inl (.inr (.inr (.inr (.inr (.inr (.inl (.inr (.inr z))))))))
        · exact .inl (.inr (.inr (.inr (.inr (.inr (.inr z))))))
        · exact .inr z
      have offs : ∀ x, x ∉ ((pre ++ (iu, ou) :: post) ++ rest).map (·.1) → (∀ p ∈ own, p.1 ≠ x) → ∀ p ∈ pre ++ (post ++ (rest ++ own)), p.1 ≠ x := fun x h1 h2 p hp e => by
        simp only [List.mem_append] at hp
        rcases hp with z | z | z | z
        · exact h1 (List.mem_map.mpr ⟨p, by simp [z], e⟩)
        · exact h1 (List.mem_map.mpr ⟨p, by simp [z], e⟩)
        · exact h1 (List.mem_map.mpr ⟨p, by simp [z], e⟩)
        · exact h2 p z e
      have o1 : ∀ p ∈ pre ++ (post ++ (rest ++ own)), p.1 ≠ na := offs na n12 fun p hp => hog p hp (na, on₁) (by simp)
      have o2 : ∀ p ∈ pre ++ (post ++ (rest ++ own)), p.1 ≠ aa := offs aa n14 fun p hp => hog p hp (aa, oa₁) (by simp)
      have hiu : iu ∉ pre.map (·.1) ∧ iu ∉ post.map (·.1) ∧ iu ∉ rest.map (·.1) := by
        have e : ((pre ++ (iu, ou) :: post) ++ rest).map (·.1) = pre.map (·.1) ++ iu :: (post.map (·.1) ++ rest.map (·.1)) := by simp
        rw [e] at n16
        have := (List.perm_middle.nodup_iff.mp n16)
        rw [List.nodup_cons, List.mem_append, List.mem_append, not_or, not_or] at this
        exact this.1
      have o3 : ∀ p ∈ pre ++ (post ++ (rest ++ own)), p.1 ≠ iu := fun p hp e => by
        simp only [List.mem_append] at hp
        rcases hp with z | z | z | z
        · exact hiu.1 (List.mem_map.mpr ⟨p, z, e⟩)
        · exact hiu.2.1 (List.mem_map.mpr ⟨p, z, e⟩)
        · exact hiu.2.2 (List.mem_map.mpr ⟨p, z, e⟩)
        · exact hog p z (iu, ou) (by simp) e
      have hiut : iu ∈ ((pre ++ (iu, ou) :: post) ++ rest).map (·.1) := by simp
      have d1 : @Ne Nat t na := fun e => htg (na, on₁) (by simp) e.symm
      have d2 : @Ne Nat t aa := fun e => htg (aa, oa₁) (by simp) e.symm
      have d3 : @Ne Nat t iu := fun e => htg (iu, ou) (by simp) e.symm
      have d4 : @Ne Nat g na := n2
      have d5 : @Ne Nat g aa := n3
      have d6 : @Ne Nat g iu := fun e => n5 (e ▸ hiut)
      have d7 : @Ne Nat d na := n6
      have d8 : @Ne Nat d aa := n7
      have d9 : @Ne Nat d iu := fun e => n9 (e ▸ hiut)
      have d10 : @Ne Nat na aa := n10
      have d11 : @Ne Nat na iu := fun e => n12 (e ▸ hiut)
      have d12 : @Ne Nat aa iu := fun e => n14 (e ▸ hiut)
      have d13 : @Ne Nat D' na := fun e => n11 e.symm
      have d14 : @Ne Nat D' aa := fun e => n13 e.symm
      have d15 : @Ne Nat D' iu := fun e => n15 (e ▸ hiut)
      clear offs hog htg hiu hiut n1 n2 n3 n4 n5 n6 n7 n8 n9 n10 n11 n12 n13 n14 n15 n16 N₁ F₁ hnw hown htup
      (try k_fold)
      k_steps
      all_goals (try k_unfold)
      refine turn_end_B (by k_asm) (by k_asm) (by k_mem) (by k_mem) (by k_mem) (by k_mem) (by k_mem) (by k_mem) (by k_asm) (by k_asm) (by k_asm) (by k_mem) (by k_asm) ?m8 (by k_asm) (by k_asm) hnd₁ hfpg W.sub hrw hfo hnk₁ hpre hpost liu hak₁ hcl hne hv hu1 hu2 ?hm
      case m8 => walk_at "MEMS"
      case hm => walk_at "MAPS"
    · have hun : (valueAt nks₁ u).isSome = false := by rw [va_isSome, hnk₁]; exact decide_eq_false hu
      have hua : valueAt aks₁ u = none := (va_none_iff _ _).mpr (hinn₁.keys ▸ hu)
      have hunn : valueAt nks₁ u = none := (va_none_iff _ _).mpr (hnk₁ ▸ hu)
      have N₂ : News g' L' s₁.heap ((t, (⟨.type "tuple", dd, .seq #[.int u tu, .int v tv] ep, sl⟩ : Obj)) :: (g, instObj 629 d) :: (d, dictOf (DEg w t1 t2 t3 ga na aa) dn) :: (na, on₁) :: (aa, oa₁) :: (D', o') :: (tl₁ ++ (rest ++ own))) := by
        intro p hp
        refine N₁ p ?_
        simp only [List.mem_cons, List.mem_append] at hp ⊢
        rcases hp with z | z | z | z | z | z | z | z | z
        · exact .inr (z ▸ htup)
        · exact .inl (.inl z)
        · exact .inl (.inr (.inl z))
        · exact .inl (.inr (.inr (.inl z)))
        · exact .inl (.inr (.inr (.inr (.inl z))))
        · exact .inl (.inr (.inr (.inr (.inr (.inl z)))))
        · exact .inl (.inr (.inr (.inr (.inr (.inr (.inl z))))))
        · exact .inl (.inr (.inr (.inr (.inr (.inr (.inr z))))))
        · exact .inr z
      have offs : ∀ x, x ∉ (tl₁ ++ rest).map (·.1) → (∀ p ∈ own, p.1 ≠ x) → ∀ p ∈ tl₁ ++ (rest ++ own), p.1 ≠ x := fun x h1 h2 p hp e => by
        simp only [List.mem_append] at hp
        rcases hp with z | z | z
        · exact h1 (List.mem_map.mpr ⟨p, by simp [z], e⟩)
        · exact h1 (List.mem_map.mpr ⟨p, by simp [z], e⟩)
        · exact h2 p z e
      have o1 : ∀ p ∈ tl₁ ++ (rest ++ own), p.1 ≠ na := offs na n12 fun p hp => hog p hp (na, on₁) (by simp)
      have o2 : ∀ p ∈ tl₁ ++ (rest ++ own), p.1 ≠ aa := offs aa n14 fun p hp => hog p hp (aa, oa₁) (by simp)
      have d1 : @Ne Nat t na := fun e => htg (na, on₁) (by simp) e.symm
      have d2 : @Ne Nat t aa := fun e => htg (aa, oa₁) (by simp) e.symm
      have d4 : @Ne Nat g na := n2
      have d5 : @Ne Nat g aa := n3
      have d7 : @Ne Nat d na := n6
      have d8 : @Ne Nat d aa := n7
      have d10 : @Ne Nat na aa := n10
      have d13 : @Ne Nat D' na := fun e => n11 e.symm
      have d14 : @Ne Nat D' aa := fun e => n13 e.symm
      clear offs hog htg n1 n2 n3 n4 n5 n6 n7 n8 n9 n10 n11 n12 n13 n14 n15 n16 N₁ F₁ hnw hown htup
      (try k_fold)
      k_steps
      all_goals (try k_unfold)
      refine turn_end_A (by k_asm) (by k_asm) (by k_mem) (by k_mem) (by k_mem) (by k_mem) (by k_mem) (by k_asm) (by k_asm) (by k_mem) (by k_asm) (by k_mem) (by k_asm) ?m8 (by k_asm) (by k_asm) (by k_asm) (by k_asm) hnd₁ hfpg W.sub hrw hfo hnk₁ hinn₁ hak₁ hcl hne hu hv ?hm
      case m8 => walk_at "MEMS"
      case hm => walk_at "MAPS"
  · intro s' m' news' hG hdr hos' F₉ N₉ hnw hJ
    obtain ⟨on₁, oa₁, nks₁, aks₁, tl₁, rfl, hnd₁, hfpg, hon₁, hnk₁, hoa₁, hinn₁, hak₁, hcl, hm₁⟩ := hJ
    clear F' N' N F hsrc hst
    k_steps
    have hnd5 : (g :: d :: na :: aa :: (tl₁ ++ rest).map (·.1)).Nodup := by
      have h5 : (g :: d :: na :: aa :: D' :: (tl₁ ++ rest).map (·.1)).Nodup := hnd₁
      have hp : (g :: d :: na :: aa :: D' :: (tl₁ ++ rest).map (·.1)).Perm (D' :: g :: d :: na :: aa :: (tl₁ ++ rest).map (·.1)) := by
        simpa using List.perm_middle (a := D') (l₁ := [g, d, na, aa]) (l₂ := (tl₁ ++ rest).map (·.1))
      exact (List.nodup_cons.mp (hp.nodup_iff.mp h5)).2
    refine h s' on₁ oa₁ nks₁ aks₁ tl₁ (hdr.trans hdrawn) (hos'.trans hos) (hGo _ (hgens ▸ hG)) (by k_asm) (news_sub (by k_asm) ?_) hnd5 hon₁ hoa₁ hnk₁ hinn₁ hak₁ hcl
    intro p hp
    simp only [List.mem_cons] at hp ⊢
    rcases hp with q | q | q | q | q
    · exact .inl q
    · exact .inr (.inl q)
    · exact .inr (.inr (.inl q))
    · exact .inr (.inr (.inr (.inl q)))
    · exact .inr (.inr (.inr (.inr (.inr q))))
end Mine
end
section
open PySem PySem.W PySem.Calls PyProof.Rows
namespace Mine
local macro_rules | `(tactic| walk_at "ZZ0") => `(tactic| skip)
local macro_rules | `(tactic| walk_at "ZZ1") => `(tactic| skip)
local macro_rules | `(tactic| walk_at "ZZ2") => `(tactic| skip)
local macro_rules | `(tactic| walk_at "ZZ3") => `(tactic| skip)
local macro_rules | `(tactic| walk_at "ZZ4") => `(tactic| skip)
local macro_rules | `(tactic| walk_at "ZZ5") => `(tactic| skip)
local macro_rules | `(tactic| walk_at "ZZ6") => `(tactic| skip)
local macro_rules | `(tactic| walk_at "ZZ7") => `(tactic| skip)
local macro_rules | `(tactic| walk_at "ZZ8") => `(tactic| skip)
local macro_rules | `(tactic| walk_at "ZZ9") => `(tactic| skip)
local macro_rules | `(tactic| walk_at "ZZ10") => `(tactic| skip)
local macro_rules | `(tactic| walk_at "ZZ11") => `(tactic| skip)
local macro_rules | `(tactic| walk_at "ZZ12") => `(tactic| skip)
local macro_rules | `(tactic| walk_at "ZZ13") => `(tactic| skip)
local macro_rules | `(tactic| walk_at "ZZ14") => `(tactic| skip)
local macro_rules | `(tactic| walk_at "ZZ15") => `(tactic| skip)
local macro_rules | `(tactic| walk_at "ZZ16") => `(tactic| skip)
local macro_rules | `(tactic| walk_at "ZZ17") => `(tactic| skip)
local macro_rules | `(tactic| walk_at "ZZ18") => `(tactic| skip)
local macro_rules | `(tactic| walk_at "ZZ19") => `(tactic| skip)
local macro_rules | `(tactic| walk_at "ZZ20") => `(tactic| skip)
local macro_rules | `(tactic| walk_at "ZZ21") => `(tactic| skip)
local macro_rules | `(tactic| walk_at "ZZ22") => `(tactic| skip)
local macro_rules | `(tactic| walk_at "ZZ23") => `(tactic| skip)
local macro_rules | `(tactic| walk_at "ZZ24") => `(tactic| skip)
local macro_rules | `(tactic| walk_at "ZZ25") => `(tactic| skip)
local macro_rules | `(tactic| walk_at "ZZ26") => `(tactic| skip)
local macro_rules | `(tactic| walk_at "ZZ27") => `(tactic| skip)
local macro_rules | `(tactic| walk_at "ZZ28") => `(tactic| skip)
local macro_rules | `(tactic| walk_at "ZZ29") => `(tactic| skip)
theorem rs5 {M : Model} {A : Around} {E : Value → Shared → Prop} {s : Shared} {env : Env} {pos : Pos} {Q : Flow → Shared → Prop} (h : wpAny M A (exec (.Pass pos) env) Q E s) : wpAny M A (exec (.Pass pos) env) Q E s := by
  w_top off
  first | (walk1; fail) | exact h
end Mine
end
section
open PySem PySem.W PySem.Calls PyProof.Rows
set_option maxRecDepth 100000
set_option maxHeartbeats 2000000
set_option rowWalk.seconds 0
namespace Mine
local macro_rules | `(tactic| k_all) => `(tactic| assumption)
local macro_rules | `(tactic| walk_at "getMethod ref") => `(tactic| (k_here; (first | (with_reducible show wpAny _ _ (getMethod (Value.ref _) (Str.ofString "update") _) _ _ _) | (with_reducible show wpAny _ _ (getMethod (Value.ref _) (Str.ofString "pop") _) _ _ _)); k_dflt (first | (refine' getMethod_tab_any (knd := PySem.strKind _ _) (enc := PyData.str) ?k1 ?k2 ?_; (case k1 => exact rfl); (case k2 => k_tabat); k_whole) | (refine' getMethod_tab_any (knd := PySem.intKind _ _) (enc := PyData.int) ?k1 ?k2 ?_; (case k1 => exact rfl); (case k2 => k_tabat); k_whole))))
local macro_rules | `(tactic| walk_at "getMethod ref") => `(tactic| (k_here; (first | (with_reducible show wpAny _ _ (getMethod (Value.ref _) (Str.ofString "graph_attr_dict_factory") _) _ _ _) | (with_reducible show wpAny _ _ (getMethod (Value.ref _) (Str.ofString "node_dict_factory") _) _ _ _) | (with_reducible show wpAny _ _ (getMethod (Value.ref _) (Str.ofString "adjlist_outer_dict_factory") _) _ _ _)); k_dflt (refine' method_inst ?k1 ?k2 ?k3 ?k4 ?k5 ?k6 ?k7 ?_; (case k1 => k_asm); (case k2 => k_asm); (case k3 => k_inst); (case k4 => k_is); (case k5 => k_is); (case k6 => k_is); (case k7 => k_get); k_whole)))
theorem graph_spec {w : World} {mean : ExcName → Option Value} {mg mb : Str → Option Value} {gd : Option (List Code)} {cn : Str} {nms : List (Str × NameKind)} {sg sc : Bool} {mo : List (Str × Const)} {a : Addr} {ccd : Value} {cl : List (Str × Addr)} {outer : List Env} {A₀ : Around} {base h₀ : Heap} {L : Addr} {m : Str → Option Value} {rest : List (Addr × Obj)} {s : Shared}
    {Q E : Value → Shared → Prop}
    (B : Below A₀ base outer h₀) (F : Fr h₀ L s.heap m) (X : (hd.heap_39 w.params).In h₀) (N : News h₀ L s.heap rest) (T : Top TP LS mean mg mb h₀)
    (h : ∀ h' tk D g d ga na aa oD og on oa t1 t2 t3, Fr h₀ L h' m → News h₀ L h' ((aa, oa) :: (na, on) :: (ga, og) :: (D, oD) :: (g, instObj 629 d) :: (d, dictOf (DEg w t1 t2 t3 ga na aa) 3) :: rest) →
      on.IsDictOf (PySem.intKind PP w) ([] : List (Int × Value)) → oa.IsDictOf (PySem.intKind PP w) ([] : List (Int × Value)) → (na == sysModules) = false → (aa == sysModules) = false →
      (d < g ∧ g < D ∧ D < ga ∧ ga < na ∧ na < aa ∧ ∀ p ∈ rest, p.1 < d) → Q (.ref g) { s with heap := h', toks := tk }) :
    wpAny (model PP w) (ktrTop 303 10 gd cn { kind := .function, names := nms, isGenerator := sg, isCoroutine := sc, more := mo } L a ccd cl outer) (call (.ref 629) []) Q E s := by
  refine of_mk ?_
  k_fill
  intro _
  k_steps
  have key := ‹News h₀ L _ ((_, _) :: (_, _) :: (_, _) :: (_, _) :: (_, instObj 629 _) :: (_, dictOf [_, _, _] 3) :: rest)›
  refine h _ _ _ _ _ _ _ _ _ _ _ _ _ _ _ (by assumption) key (by assumption) (by assumption) (by assumption) (by assumption) ⟨by assumption, ‹_ < _ ∧ _ < _ ∧ AllLt _ rest›.1, ‹_ < _ ∧ _ < _ ∧ _ < _ ∧ AllLt _ rest›.1, ‹_ < _ ∧ _ < _ ∧ _ < _ ∧ _ < _ ∧ AllLt _ rest›.1, ‹_ < _ ∧ _ < _ ∧ _ < _ ∧ _ < _ ∧ _ < _ ∧ AllLt _ rest›.1, by assumption⟩
end Mine
end
section
open PySem PySem.W PySem.Calls PyProof.Rows
set_option maxRecDepth 100000
namespace Mine
section
variable {prog : Program} {w : World} {A : Around} {E : Value → Shared → Prop} {s : Shared}
/-- what stands behind the iter of a generator expression -/
def GenMade (h₀ : Heap) (P : Addr) (env : Env) (scope : Scope) (cl : List (Str × Addr)) (elt target iter : Expr) (pos : Pos) (Q : Value → Shared → Prop) (it : Value) (s₂ : Shared) : Prop :=
  ∃ I L m ps, it = .ref I ∧ Fr h₀ L s₂.heap m ∧ s₂.heap.get? P = some (tabObj ps) ∧ TriplesOk ps.toList ∧ h₀.get? P = none ∧
    ∀ code C a ps' h₅ tk, (∀ b o, b ≠ P → s₂.heap.get? b = some o → h₅.get? b = some o) → h₅.get? P = some (tabObj ps') → TriplesOk ps'.toList → h₅.Ns C (fun y => if y = ".0" then some (.ref I) else none) → h₅.IsGen a s₂.gens.size →
      (∀ b o, s₂.heap.get? b = some o → b < C) → C < a →
      Q (.ref a) { s₂ with heap := h₅, toks := tk, gens := s₂.gens.push (.fresh (cStart elt target iter scope pos I (genEnv scope cl C code builtinsNs env))) }
theorem gexp_K {p : Program} {loose : List Str} {mean : ExcName → Option Value} {mg mb : Str → Option Value} {h₀ : Heap} {c P : Addr} {env : Env} {elt target iter : Expr} {scope : Scope} {cl : List (Str × Addr)} {pos : Pos} {Q : Value → Shared → Prop}
    (T : Top p loose mean mg mb h₀) (hC : CodeHd h₀ c P) (hcode : env.code = .ref c) (hglob : env.globals = mainGlobals)
    (hco : scope.isCoroutine = false) (hclos : closureFor scope env = pure cl) (hcell : ∀ y ∈ scope.names, y.2 ≠ .cell) (h0 : scope.names.lookup (".0" : Str) = some NameKind.local) (hkind : scope.kind = .function)
    (hroom : A.depth < recursionLimit) (hs : ∀ x, genFold iter env x = pure x)
    (h : wpAny (model prog w) A (eval iter env) (fun xv s₁ => wpAny (model prog w) A (pyIter xv) (fun it s₂ => GenMade h₀ P env scope cl elt target iter pos Q it s₂) E s₁) E s) :
    wpAny (model prog w) A (eval (.GeneratorExp elt [⟨target, iter, [], 0⟩] scope pos) env) Q E s := by
  refine wpAny_GeneratorExp_make hco hclos hcell h0 hkind hroom (wpAny_mono h (fun xv s₁ h₁ => wpAny_mono h₁ (fun it s₂ h₂ => ?_) fun _ _ e => e) fun _ _ e => e) hs
  obtain ⟨I, L, m, ps, rfl, F, hP, ht, hP0, hQ⟩ := h₂
  have hl₂ : s₂.heap.NoLimit := T.nolimit.keeps F.keep
  refine ⟨hl₂, genexprCode_T hcode (hC.keeps F.keep) hP ht fun code h₃ tk₃ ps' hx hP' ht' => ?_⟩
  have keep₃ : ∀ b o, h₀.get? b = some o → h₃.get? b = some o := fun b o e => hx b o (fun q => by rw [q, hP0] at e; cases e) (F.keep b o e)
  obtain ⟨bm, ob, b1, b2, b3, b4, b5, b6⟩ := T.bmain
  refine wpAny_builtinsFor (hglob ▸ T.g.keeps keep₃) b1 b2 (keep₃ _ _ b3) b4 b5 b6 ?_
  intro h' hn' hs'
  have hPlt : P < h₃.objs.size := Heap.lt_size hP'
  have keep' : ∀ b o, h₃.get? b = some o → h'.get? b = some o := fun b o e => hs'.extBut b o (Nat.ne_of_lt (Heap.lt_size e)) (Heap.get?_push_of_some _ e)
  have hsz : h'.objs.size = h₃.objs.size + 1 := by rw [hs'.1, Heap.size_push]
  refine hQ code h₃.objs.size h'.objs.size ps' _ _ (fun b o hb e => Heap.get?_push_of_some _ (keep' b o (hx b o hb e))) (Heap.get?_push_of_some _ (keep' _ _ hP')) ht' (hn'.push _)
    ⟨_, _, _, Heap.get?_push_size _ rfl, rfl, rfl, rfl⟩ (fun b o e => ?_) (by show h₃.objs.size < h'.objs.size; rw [hsz]; exact Nat.lt_succ_self _)
  show b < h₃.objs.size
  by_cases hb : b = P
  · exact hb ▸ hPlt
  · exact Heap.lt_size (hx b o hb e)
end
end Mine
end
section
open PySem PySem.W PySem.Calls PyProof.Rows
set_option maxRecDepth 100000
namespace Mine
theorem It.ofWalks {prog : Program} {w : World} {A : Around} {I : Addr} {fp wr : List Addr} {n : Nat} {P : Nat → Value → Prop} {St : Nat → Heap → Prop} (W : Walks prog w A I fp wr n P St)
    (hlv : ∀ i h, St i h → ∀ b ∈ fp, ∃ o, h.get? b = some o) (rd : List (Addr × Obj)) (hrd : ∀ p ∈ rd, p.1 ∉ wr) :
    It prog w A I (fp ++ rd.map (·.1)) wr [] n (fun i _ v h' => P i v ∧ ∀ p ∈ rd, h'.get? p.1 = some p.2) (fun i s => St i s.heap ∧ ∀ p ∈ rd, s.heap.get? p.1 = some p.2) where
  sub := fun b hb => List.mem_append_left _ (W.sub b hb)
  frame := fun i s s' st hk => ⟨W.frame i _ _ st.1 fun b hb o e => hk.heap b (List.mem_append_left _ hb) o e, fun p hp => hk.heap _ (List.mem_append_right _ (List.mem_map_of_mem hp)) _ (st.2 p hp)⟩
  live := fun i s st b hb => by
    rcases List.mem_append.mp hb with h | h
    · exact hlv i _ st.1 b h
    · obtain ⟨p, hp, rfl⟩ := List.mem_map.mp h
      exact ⟨_, st.2 p hp⟩
  item := fun i s Q E hi st _ hQ => W.item i s Q E hi st.1 fun v h' tk hP st' hk =>
    hQ v _ ⟨hP, fun p hp => hk _ _ (hrd p hp) (st.2 p hp)⟩ ⟨st', fun p hp => hk _ _ (hrd p hp) (st.2 p hp)⟩ ⟨hk, .refl _ _, rfl, rfl⟩
  done := fun s Q E st _ hQ => W.done s Q E st.1 fun h' tk hk => hQ _ ⟨hk, .refl _ _, rfl, rfl⟩
theorem It.imp {prog : Program} {w : World} {A : Around} {I : Addr} {fp wr : List Addr} {gn : List Nat} {n : Nat} {P P' : Nat → Heap → Value → Heap → Prop} {St : Nat → Shared → Prop} (W : It prog w A I fp wr gn n P St)
    (h : ∀ i h v h', i < n → P i h v h' → P' i h v h') : It prog w A I fp wr gn n P' St where
  sub := W.sub
  frame := W.frame
  live := W.live
  item := fun i s Q E hi st hl hQ => W.item i s Q E hi st hl fun v s' hP => hQ v s' (h _ _ _ _ hi hP)
  done := W.done
theorem GIn.eq {a b : Array GenState} (h : GIn [] a b) : b = a := Array.ext_getElem? fun i => h.but i (List.not_mem_nil)
theorem listSrc {w : World} {gens₀ : Array GenState} {l : Addr} {items : Array Value} {c n : Nat} {ed : Nat → Int × Int} {tups : List (Addr × Obj)} (hsz : items.size = n)
    (hitems : ∀ i, i < n → ∃ t tu tv dd ep sl, items[i]? = some (.ref t) ∧ (t, (⟨.type "tuple", dd, .seq #[.int (ed i).1 tu, .int (ed i).2 tv] ep, sl⟩ : Obj)) ∈ tups) :
    EdgeSrc w gens₀ l ((l, W.listOf items c) :: tups) [] n ed (fun gs => gs = gens₀) := by
  intro A' E' Q' s₁ hh hd hsr hnl hg h
  have hl : s₁.heap.get? l = some (W.listOf items c) := hsr _ (.head _)
  have hL : s₁.heap.IsList l items := ⟨_, hl, rfl, c, rfl⟩
  have hnone : s₁.heap.get? s₁.heap.objs.size = none := by
    cases q : s₁.heap.get? s₁.heap.objs.size with
    | none => rfl
    | some o => exact absurd (Heap.lt_size q) (Nat.lt_irrefl _)
  have hneI : ∀ {b : Addr} {o : Obj}, s₁.heap.get? b = some o → b ≠ s₁.heap.objs.size := fun e => Nat.ne_of_lt (Heap.lt_size e)
  refine wpAny_pyIter_list hL ?_
  have W := It.ofWalks (Walks.list (prog := PP) (w := w) (A := A') hh s₁.heap.objs.size l (hneI hl) items)
    (fun i h st b hb => by
      rcases List.mem_cons.mp hb with rfl | hb
      · obtain ⟨o, ho, _⟩ := st.1; exact ⟨o, ho⟩
      · rw [List.mem_singleton.mp hb]; obtain ⟨o, ho, _⟩ := st.2; exact ⟨o, ho⟩) tups (fun p hp hm => hneI (hsr p (.tail _ hp)) (List.mem_singleton.mp hm))
  rw [hsz] at W
  have W' := W.imp (P' := EdgeP (([s₁.heap.objs.size, l] ++ tups.map (·.1))) [s₁.heap.objs.size] ed) (fun i h v h' hi hP => by
    obtain ⟨t, tu, tv, dd, ep, sl, e1, e2⟩ := hitems i hi
    rw [e1] at hP
    obtain ⟨hv, hr⟩ := hP
    cases hv
    exact ⟨t, tu, tv, dd, ep, sl, rfl, hr _ e2, .inl (List.mem_append_right _ (List.mem_map_of_mem e2)), fun hm => hneI (hsr _ (.tail _ e2)) (List.mem_singleton.mp hm)⟩)
  refine h _ _ _ _ _ _ W' (fun b hb => ?_) (fun b hb => .inr (List.mem_singleton.mp hb ▸ hnone)) W'.live (fun gs hgs => hgs.eq) ⟨⟨?_, ?_⟩, ?_⟩ (fun b o e => Heap.get?_push_of_some _ e) hg rfl rfl
  · rcases List.mem_append.mp hb with hb | hb
    · rcases List.mem_cons.mp hb with rfl | hb
      · exact .inr hnone
      · rw [List.mem_singleton.mp hb]; exact .inl (.head _)
    · exact .inl (.tail _ hb)
  · exact ⟨_, Heap.get?_push_size _ rfl, rfl, rfl⟩
  · exact ⟨_, Heap.get?_push_of_some _ hl, rfl, c, rfl⟩
  · exact fun p hp => Heap.get?_push_of_some _ (hsr p (.tail _ hp))
end Mine
end
section
open PySem PySem.W PySem.Calls PyProof.Rows
set_option maxRecDepth 100000
namespace Mine
section
variable {prog : Program} {w : World} {A : Around} {R : Result → Shared → Prop} {I S : Addr} {fp wr : List Addr} {gn : List Nat} {n : Nat} {P : Nat → Heap → Value → Heap → Prop} {St : Nat → Shared → Prop}
/-- list.extend's loop over an iterator: J is what is known of the items taken so far -/
theorem codeAny_extend_It (W : It prog w A.in1 I fp wr gn n P St) (hn : n ≤ sizeLine) (hSf : S ∉ fp) (hcw : cStatics ∉ wr) (hcS : cStatics ≠ S) (res : Value) (J : Nat → List Value → Shared → Prop)
    (hJ : ∀ i acc s v s', i < n → J i acc s → P i s.heap v s'.heap → Mvd wr gn s s' → J (i + 1) (acc ++ [v]) s') (hJS : ∀ i acc s h', J i acc s → (∀ b o, b ≠ S → s.heap.get? b = some o → h'.get? b = some o) → J i acc { s with heap := h' }) :
    ∀ (k i : Nat) (s : Shared) (acc : List Value) (c : Nat), n - i = k → i ≤ n → acc.length = i → St i s → s.heap.NoLimit → s.heap.get? S = some { cls := .type "list", dict := none, data := .seq acc.toArray c, slots := #[] } → J i acc s →
    (∀ s₁ s' acc' c', J n acc' s₁ → Mvd wr gn s₁ s' → acc'.length = n → Mvd (S :: wr) gn s s' → s'.heap.get? S = some { cls := .type "list", dict := none, data := .seq acc'.toArray c', slots := #[] } → R (.ok (.ret res)) s') →
    codeAny (model prog w) A (.builtin "list.extend.loop" ⟨[.ref S, .ref I, res], []⟩) R s := by
  have hSw : S ∉ wr := fun h => hSf (W.sub _ h)
  have hsub : ∀ b ∈ wr, b ∈ S :: wr := fun b hb => List.mem_cons_of_mem _ hb
  intro k
  induction k with
  | zero =>
    intro i s acc c hk hi hl hst hnl hS hj hR
    have hin : i = n := by omega
    subst hin
    refine codeAny_builtin F.entry_extend_loop ?_
    rw [Around.under_plainId F.plain_extend_loop _]
    show wpAny _ A.in1 (pyNext (.ref I) >>= _) _ _ s
    refine wpAny_bind (W.done s _ _ hst hnl fun s' hm => ?_)
    exact wpAny_pure (hR s s' acc c hj hm hl (hm.mono hsub fun _ h => h) (hm.heap S _ hSw hS))
  | succ k ih =>
    intro i s acc c hk hi hl hst hnl hS hj hR
    have hlt : i < n := by omega
    refine codeAny_builtin F.entry_extend_loop ?_
    rw [Around.under_plainId F.plain_extend_loop _]
    show wpAny _ A.in1 (pyNext (.ref I) >>= _) _ _ s
    refine wpAny_bind (W.item i s _ _ hlt hst hnl fun v s' hP hst' hm => ?_)
    have hS' := hm.heap S _ hSw hS
    show wpAny _ A.in1 (updateSeq S (·.push v) >>= _) _ _ _
    refine wpAny_bind ?_
    have hpush : acc.toArray.push v = (acc ++ [v]).toArray := by simp
    have hup := Heap.get?_update_self (Obj.mapSeq (·.push v)) hS' rfl
    have oth : ∀ b o, b ≠ S → s'.heap.get? b = some o → (s'.heap.update S (Obj.mapSeq (·.push v))).get? b = some o := fun b o hb e => (Heap.get?_update_other _ _ (Ne.symm hb)).trans e
    obtain ⟨c', hc'⟩ : ∃ c', (s'.heap.update S (Obj.mapSeq (·.push v))).get? S = some { cls := .type "list", dict := none, data := .seq (acc ++ [v]).toArray c', slots := #[] } := ⟨_, by rw [← hpush]; exact hup⟩
    refine wpAny_updateSeq hS' rfl (wpAny_pure ⟨plainId_quiet F.plain_extend_loop _, ih (i + 1) _ (acc ++ [v]) c' (by omega) hlt (by simp [hl]) (W.frame _ s' _ hst' ⟨fun b hb o e => oth b o (fun h => hSf (h ▸ hb)) e, fun _ _ => rfl⟩) (noLimit_at (wr := S :: wr) (by simp [hcS, hcw]) hnl fun b o hb e => ?_) hc' (hJS _ _ _ _ (hJ i acc s v s' hlt hj hP hm) oth) fun s₁ s'' acc' c'' h1 h2 h3 h4 h5 => ?_⟩)
      (by rw [List.size_toArray]; omega) (by show (acc.toArray.push v).size ≤ sizeLine + 1; rw [Array.size_push, List.size_toArray]; omega)
    · simp only [List.mem_cons, not_or] at hb
      exact oth b o hb.1 (hm.heap b o hb.2 e)
    · refine hR s₁ s'' acc' c'' h1 h2 h3 (Mvd.trans (s' := { s' with heap := s'.heap.update S (Obj.mapSeq (·.push v)) }) ⟨fun b o hb e => ?_, hm.gens, hm.drawn, hm.os⟩ h4) h5
      simp only [List.mem_cons, not_or] at hb
      exact oth b o hb.1 (hm.heap b o hb.2 e)
end
end Mine
end
section
open PySem PySem.W PySem.Calls PyProof.Rows
set_option maxRecDepth 100000
namespace Mine
section
variable {prog : Program} {w : World} {A : Around} {x S C f f2 : Addr} {K : Frag}
/-- the items are about to be taken one by one -/
def ExtAt (prog : Program) (w : World) (A : Around) (S : Addr) (Kq : List Value → Shared → Prop) (it : Value) (s : Shared) : Prop :=
  ∃ (I : Addr) (fp wr : List Addr) (gn : List Nat) (n : Nat) (P : Nat → Heap → Value → Heap → Prop) (St : Nat → Shared → Prop) (J : Nat → List Value → Shared → Prop) (c : Nat),
    it = .ref I ∧ It prog w A.in1 I fp wr gn n P St ∧ n ≤ sizeLine ∧ S ∉ fp ∧ cStatics ∉ wr ∧ cStatics ≠ S ∧
    (∀ i acc s v s', i < n → J i acc s → P i s.heap v s'.heap → Mvd wr gn s s' → J (i + 1) (acc ++ [v]) s') ∧
    (∀ i acc s h', J i acc s → (∀ b o, b ≠ S → s.heap.get? b = some o → h'.get? b = some o) → J i acc { s with heap := h' }) ∧
    St 0 s ∧ s.heap.NoLimit ∧ s.heap.get? S = some { cls := .type "list", dict := none, data := .seq #[] c, slots := #[] } ∧ J 0 [] s ∧
    ∀ s₁ s' acc c', J n acc s₁ → Mvd wr gn s₁ s' → acc.length = n → Mvd (S :: wr) gn s s' → s'.heap.get? S = some { cls := .type "list", dict := none, data := .seq acc.toArray c', slots := #[] } → Kq acc s'
def HintAt (prog : Program) (w : World) (A : Around) (K : Frag) (C x S : Addr) (Kq : List Value → Shared → Prop) (it : Value) (s : Shared) : Prop :=
  (∃ ox od, K.In s.heap ∧ InstAt s.heap x ox C od) ∧ wpAny (model prog w) A.in1 (call (.builtin "len") [.ref x]) (fun n s₃ => ∃ k t, n = .int k t ∧ k.toNat ≤ sizeLine ∧ ExtAt prog w A S Kq it s₃) Never s
theorem hint_own {Q : Bool → Shared → Prop} {E : Value → Shared → Prop} {s : Shared} {ox : Obj} {od : Option Obj} (X : K.In s.heap) (I : InstAt s.heap x ox C od) (hs : findIn K (.ref C) "__len__" = some (some (.ref f2)))
    (h : wpAny (model prog w) A (call (.builtin "len") [.ref x]) (fun n s₃ => ∃ k t, n = .int k t ∧ k.toNat ≤ sizeLine ∧ ∀ b, Q b s₃) Never s) : wpAny (model prog w) A (Builtin.List.listLengthHint (.ref x)) Q E s := by
  unfold Builtin.List.listLengthHint
  refine wpAny_bind (wpAny_bind (I.type.here ((looks_findIn X hs).here ?_)))
  refine wpAny_bind (wpAny_rule ?_)
  refine wpAny_bind (wpAny_attempt (wpAny_mono h (fun n s₃ hn => ?_) fun _ _ e => e.elim))
  obtain ⟨k, t, rfl, hk, hQ⟩ := hn
  refine wpAny_bind (m := asInt? (.int k t)) (wpAny_pure ?_)
  show wpAny _ A (if Builtin.List.listTooLong k.toNat then _ else _) _ _ _
  rw [if_neg (by simp [Builtin.List.listTooLong]; omega)]
  exact wpAny_pure (hQ _)
theorem extend_own {R : Result → Shared → Prop} {s : Shared} {h₀ : Heap} {L : Addr} {m : Str → Option Value} {ox : Obj} {od : Option Obj} (res : Value) (hxS : x ≠ S) (F : Fr h₀ L s.heap m) (X₀ : K.In h₀) (I : InstAt s.heap x ox C od)
    (hs : findIn K (.ref C) "__iter__" = some (some (.ref f))) (hf : isFn K (.ref f) = true) (hs2 : findIn K (.ref C) "__len__" = some (some (.ref f2)))
    (h : wpAny (model prog w) A.in1 (call (.ref f) [.ref x]) (OwitIt (model prog w) A.in1 (HintAt prog w A K C x S fun acc s' => R (.ok (.ret res)) s') fun e s' => R (.error e) s') (fun e s' => R (.error e) s') s) :
    wpAny (model prog w) A.in1 (Builtin.List.listExtendWith (.ref S) (.ref x) res)
      (fun fin s' => match fin with | .done f => R (.ok f) s' | .again c' => c'.quiet = true ∧ codeAny (model prog w) A c' R s') (fun e s' => R (.error e) s') s := by
  have h1 : Builtin.List.listSameRef (.ref S) (.ref x) = false := by simp [Builtin.List.listSameRef, Ne.symm hxS]
  unfold Builtin.List.listExtendWith
  refine wpAny_bind (I.type.here ?_)
  have h2 : (Value.ref C == Value.type "list") = false := rfl
  have h3 : (Value.ref C == Value.type "tuple") = false := rfl
  simp only [h1, h2, h3, Bool.or_false, Bool.false_eq_true, if_false]
  refine wpAny_bind (owit_iter F X₀ I hs hf (wpAny_mono h (fun it s₂ h₂ => ?_) fun _ _ e => e))
  refine wpAny_mono h₂ (fun r s₃ hr => ?_) fun _ _ e => e
  cases r with
  | none => exact hr.elim
  | some g =>
    obtain ⟨⟨ox', od', X', I'⟩, hlen⟩ := hr
    refine wpAny_bind (wpAny_holding (hint_own X' I' hs2 (wpAny_mono hlen (fun n s₃ hn => ?_) fun _ _ e => e)))
    obtain ⟨k, t, rfl, hk, hx⟩ := hn
    refine ⟨k, t, rfl, hk, fun b => ?_⟩
    obtain ⟨I, fp, wr, gn, n, P, St, J, c, rfl, W, hn, hSf, hcw, hcS, hJ, hJS, hst, hnl, hS, h0, hR⟩ := hx
    have go : ∀ (s₄ : Shared) c', s₄.drawn = s₃.drawn → s₄.os = s₃.os → s₄.gens = s₃.gens → (∀ b o, b ≠ S → s₃.heap.get? b = some o → s₄.heap.get? b = some o) → St 0 s₄ → s₄.heap.NoLimit → s₄.heap.get? S = some { cls := .type "list", dict := none, data := .seq #[] c', slots := #[] } → J 0 [] s₄ →
        wpAny (model prog w) A.in1 (again (.builtin "list.extend.loop" ⟨[.ref S, .ref I, res], []⟩))
          (fun fin s' => match fin with | .done f => R (.ok f) s' | .again c' => c'.quiet = true ∧ codeAny (model prog w) A c' R s') (fun e s' => R (.error e) s') s₄ := fun s₄ c' e1 e2 e3 hk4 hst4 hnl4 hS4 hJ4 =>
      wpAny_pure ⟨plainId_quiet PySem.F.plain_extend_loop _, codeAny_extend_It W hn hSf hcw hcS res J hJ hJS n 0 s₄ [] c' rfl (Nat.zero_le _) rfl hst4 hnl4 hS4 hJ4
        fun s₁ s' acc' c'' a1 a2 a3 a4 a5 => hR s₁ s' acc' c'' a1 a2 a3 ⟨fun b o hb e => a4.heap b o hb (hk4 b o (fun q => hb (q ▸ List.mem_cons_self)) e), e3 ▸ a4.gens, a4.drawn.trans e1, a4.os.trans e2⟩ a5⟩
    split
    · refine wpAny_bind (wpAny_rule ?_)
      refine wpAny_bind ?_
      show wpAny _ A.in1 (updateSeq S (·.push .none) >>= fun _ => updateSeq S (·.pop)) _ _ _
      refine wpAny_bind (wpAny_updateSeq hS rfl ?_)
      have hS₂ := Heap.get?_update_self (Obj.mapSeq (·.push Value.none)) hS rfl
      refine wpAny_updateSeq (hz := by seq_fits) hS₂ rfl ?_
      have hS₃ := Heap.get?_update_self (Obj.mapSeq (·.pop)) hS₂ rfl
      have oth : ∀ b o, b ≠ S → s₃.heap.get? b = some o → ((s₃.heap.update S (Obj.mapSeq (·.push Value.none))).update S (Obj.mapSeq (·.pop))).get? b = some o :=
        fun b o hb e => (Heap.get?_update_other _ _ (Ne.symm hb)).trans ((Heap.get?_update_other _ _ (Ne.symm hb)).trans e)
      refine go _ _ rfl rfl rfl oth (W.frame _ _ _ hst ⟨fun b hb o e => oth b o (fun q => hSf (q ▸ hb)) e, fun _ _ => rfl⟩) ?_ hS₃ (hJS 0 [] s₃ _ h0 oth)
      exact noLimit_at (wr := [S]) (by simp [hcS]) hnl fun b o hb e => oth b o (by simpa using hb) e
    · exact go s₃ c rfl rfl rfl (fun _ _ _ e => e) hst hnl hS h0
theorem iadd_own {R : Result → Shared → Prop} {s : Shared} {h₀ : Heap} {L : Addr} {m : Str → Option Value} {ox : Obj} {od : Option Obj} (hxS : x ≠ S) (F : Fr h₀ L s.heap m) (X₀ : K.In h₀) (I : InstAt s.heap x ox C od)
    (hs : findIn K (.ref C) "__iter__" = some (some (.ref f))) (hf : isFn K (.ref f) = true) (hs2 : findIn K (.ref C) "__len__" = some (some (.ref f2)))
    (h : wpAny (model prog w) A.in1 (call (.ref f) [.ref x]) (OwitIt (model prog w) A.in1 (HintAt prog w A K C x S fun acc s' => R (.ok (.ret (.ref S))) s') fun e s' => R (.error e) s') (fun e s' => R (.error e) s') s) :
    codeAny (model prog w) A (.builtin "list.__iadd__" ⟨[.ref S, .ref x], []⟩) R s := by
  refine codeAny_builtin PySem.F.entry_list_iadd ?_
  rw [Around.under_plainId PySem.F.plain_list_iadd _]
  exact extend_own (R := R) _ hxS F X₀ I hs hf hs2 h
theorem ExtAt.mono {S : Addr} {Kq Kq' : List Value → Shared → Prop} {it : Value} {s : Shared} (h : ∀ acc s' c', s'.heap.get? S = some { cls := .type "list", dict := none, data := .seq acc.toArray c', slots := #[] } → Kq acc s' → Kq' acc s') (e : ExtAt prog w A S Kq it s) : ExtAt prog w A S Kq' it s := by
  obtain ⟨I, fp, wr, gn, n, P, St, J, c, h1, h2, h3, h4, h5, h6, h7, h8, h9, h10, h11, h12, h13⟩ := e
  exact ⟨I, fp, wr, gn, n, P, St, J, c, h1, h2, h3, h4, h5, h6, h7, h8, h9, h10, h11, h12, fun s₁ s' acc c' a1 a2 a3 a4 a5 => h acc s' c' a5 (h13 s₁ s' acc c' a1 a2 a3 a4 a5)⟩
theorem HintAt.mono {Kq Kq' : List Value → Shared → Prop} {it : Value} {s : Shared} (h : ∀ acc s' c', s'.heap.get? S = some { cls := .type "list", dict := none, data := .seq acc.toArray c', slots := #[] } → Kq acc s' → Kq' acc s') (e : HintAt prog w A K C x S Kq it s) : HintAt prog w A K C x S Kq' it s :=
  ⟨e.1, wpAny_mono e.2 (fun n s₃ hn => by obtain ⟨k, t, h1, h2, h3⟩ := hn; exact ⟨k, t, h1, h2, h3.mono h⟩) fun _ _ e => e⟩
theorem OwitIt_mono {M : Model} {Q Q' : Value → Shared → Prop} {E : Value → Shared → Prop} {it : Value} {s : Shared} (h : ∀ v s, Q v s → Q' v s) (e : OwitIt M A Q E it s) : OwitIt M A Q' E it s :=
  wpAny_mono e (fun r s₂ hr => by cases r with | none => exact hr | some g => exact h _ _ hr) fun _ _ e => e
theorem collect_own {Q : List Value → Shared → Prop} {E : Value → Shared → Prop} {s : Shared} {h₀ : Heap} {L : Addr} {m : Str → Option Value} {ox : Obj} {od : Option Obj} (F : Fr h₀ L s.heap m) (X₀ : K.In h₀) (I : InstAt s.heap x ox C od)
    (hs : findIn K (.ref C) "__iter__" = some (some (.ref f))) (hf : isFn K (.ref f) = true) (hs2 : findIn K (.ref C) "__len__" = some (some (.ref f2)))
    (h : ∀ S h₁, S = s.heap.objs.size → (∀ b o, s.heap.get? b = some o → h₁.get? b = some o) → h₁.get? S = some { cls := .type "list", dict := none, data := .seq #[] 0, slots := #[] } →
      wpAny (model prog w) A.in1 (call (.ref f) [.ref x]) (OwitIt (model prog w) A.in1 (HintAt prog w A K C x S Q) E) E { s with heap := h₁ }) :
    wpAny (model prog w) A (collect (.ref x)) Q E s := by
  unfold collect
  refine wpAny_bind (wpAny_runValue (codeAny_builtin PySem.F.entry_proto_collect ?_))
  rw [Around.under_plainId PySem.F.plain_proto_collect _]
  show wpAny _ A.in1 (newList [] >>= fun l => again (.builtin "list.__iadd__" ⟨[l, .ref x], []⟩)) _ _ s
  refine wpAny_bind (wpAny_newObj_type ?_)
  refine wpAny_pure ⟨plainId_quiet PySem.F.plain_list_iadd _, ?_⟩
  have hS₁ : (s.heap.push { cls := .type "list", data := .seq ([] : List Value).toArray }).get? s.heap.objs.size = some { cls := .type "list", data := .seq ([] : List Value).toArray } := Heap.get?_push_size _ rfl
  have hk : ∀ b o, s.heap.get? b = some o → (s.heap.push { cls := .type "list", data := .seq ([] : List Value).toArray }).get? b = some o := fun b o e => Heap.get?_push_of_some _ e
  have hxS : x ≠ s.heap.objs.size := Nat.ne_of_lt (Heap.lt_size I.at_)
  refine iadd_own hxS (F.push _) X₀ (?_ : InstAt _ x ox C od) hs hf hs2 (wpAny_mono (h _ _ rfl hk hS₁) (fun it s₂ h₂ => OwitIt_mono (fun v _ hv => HintAt.mono (fun acc s' c' hS hq => ?_) hv) h₂) fun _ _ e => e)
  · refine ⟨hk _ _ I.at_, I.cls, I.no, ?_⟩
    have hd := I.dict
    cases h1 : ox.dict with
    | none => rw [h1] at hd; cases od with
      | none => trivial
      | some o => exact hd.elim
    | some dx => rw [h1] at hd; cases od with
      | none => exact hd.elim
      | some o => exact hk _ _ hd
  · show wpAny _ A (load s.heap.objs.size >>= _) _ _ s'
    refine wpAny_bind (wpAny_load hS ?_)
    exact wpAny_pure (by simpa using hq)
theorem sorted_own {Q : Value → Shared → Prop} {E : Value → Shared → Prop} {s : Shared} {h₀ : Heap} {L : Addr} {m : Str → Option Value} {ox : Obj} {od : Option Obj} (F : Fr h₀ L s.heap m) (X₀ : K.In h₀) (I : InstAt s.heap x ox C od)
    (hs : findIn K (.ref C) "__iter__" = some (some (.ref f))) (hf : isFn K (.ref f) = true) (hs2 : findIn K (.ref C) "__len__" = some (some (.ref f2)))
    (h : ∀ S h₁, S = s.heap.objs.size → (∀ b o, s.heap.get? b = some o → h₁.get? b = some o) → h₁.get? S = some { cls := .type "list", dict := none, data := .seq #[] 0, slots := #[] } →
      wpAny (model prog w) A.in1.in1 (call (.ref f) [.ref x]) (OwitIt (model prog w) A.in1.in1 (HintAt prog w A.in1 K C x S fun acc s' => ∃ ns news, IntsAre acc ns ∧ acc.length < 64 ∧ Fr h₀ L s'.heap m ∧ News h₀ L s'.heap news ∧
        ∀ h' vs' ns' e r, Fr h₀ L h' m → News h₀ L h' ((r, listOf (List.toArray vs') e) :: news) → (∀ p ∈ news, p.1 < r) → IntsAre vs' ns' → ns'.Perm ns → ns'.Pairwise (· ≤ ·) → Q (.ref r) { s' with heap := h' }) E) E { s with heap := h₁ }) :
    wpAny (model prog w) A (call (.builtin "sorted") [.ref x]) Q E s := by
  refine Calls.call_function_entry kind_sorted plain_sorted entry_sorted (args_sorted1 _) ?_
  unfold Builtin.«sorted»
  refine wpAny_bind (m := checkCount "sorted" 1 1 _) (wpAny_pure ?_)
  refine wpAny_bind (collect_own F X₀ I hs hf hs2 fun S h₁ hS hk hS₁ => wpAny_mono (h S h₁ hS hk hS₁) (fun it s₂ h₂ => OwitIt_mono (fun v _ hv => HintAt.mono (fun acc s' c' hS hq => ?_) hv) h₂) fun _ _ e => e)
  obtain ⟨ns, news, hI, h64, F', N', hQ⟩ := hq
  refine wpAny_bind (wpAny_newList ?_)
  have hoL : (s'.heap.push (seqObj "list" acc.toArray 0)).get? s'.heap.objs.size = some (seqObj "list" acc.toArray 0) := Heap.get?_push_size _ rfl
  show wpAny _ _ _ _ _ { s' with heap := s'.heap.push (seqObj "list" acc.toArray 0) }
  refine wpAny_bind (wpAny_holding (wpAny_call_entry slot_list_sort ⟨_, hoL, rfl⟩ entry_list_sort (list_sort_tree hoL hI h64 fun out ns' a1 a2 a3 => ⟨_, rfl, ?_⟩) (args_list_sort _)))
  obtain ⟨e, he⟩ := sortedHeap_at (out := out) hoL
  have old : ∀ b o, s'.heap.get? b = some o → (sortedHeap (s'.heap.push (seqObj "list" acc.toArray 0)) s'.heap.objs.size acc out).get? b = some o := fun b o q => by
    rw [sortedHeap_old (Nat.ne_of_lt (Heap.lt_size q)) (by rw [size_push']; exact Nat.lt_succ_of_lt (Heap.lt_size q))]
    exact Heap.get?_push_of_some _ q
  exact wpAny_pure ⟨_, rfl, hQ _ out.toList ns' e _ (F'.kept old) (N'.kept_cons F' old (Nat.le_refl _) (by rw [show out.toList.toArray = out by simp]; exact he)) (fun p hp => Heap.lt_size (N' p hp).1) a1 a2 a3⟩
end
end Mine
end
section
open PySem PySem.W PySem.Calls PyProof.Rows
namespace Mine
local macro_rules | `(tactic| walk_at "ZZ0") => `(tactic| skip)
local macro_rules | `(tactic| walk_at "ZZ1") => `(tactic| skip)
local macro_rules | `(tactic| walk_at "ZZ2") => `(tactic| skip)
local macro_rules | `(tactic| walk_at "ZZ3") => `(tactic| skip)
local macro_rules | `(tactic| walk_at "ZZ4") => `(tactic| skip)
local macro_rules | `(tactic| walk_at "ZZ5") => `(tactic| skip)
local macro_rules | `(tactic| walk_at "ZZ6") => `(tactic| skip)
local macro_rules | `(tactic| walk_at "ZZ7") => `(tactic| skip)
local macro_rules | `(tactic| walk_at "ZZ8") => `(tactic| skip)
local macro_rules | `(tactic| walk_at "ZZ9") => `(tactic| skip)
local macro_rules | `(tactic| walk_at "ZZ10") => `(tactic| skip)
local macro_rules | `(tactic| walk_at "ZZ11") => `(tactic| skip)
local macro_rules | `(tactic| walk_at "ZZ12") => `(tactic| skip)
local macro_rules | `(tactic| walk_at "ZZ13") => `(tactic| skip)
local macro_rules | `(tactic| walk_at "ZZ14") => `(tactic| skip)
local macro_rules | `(tactic| walk_at "ZZ15") => `(tactic| skip)
local macro_rules | `(tactic| walk_at "ZZ16") => `(tactic| skip)
local macro_rules | `(tactic| walk_at "ZZ17") => `(tactic| skip)
local macro_rules | `(tactic| walk_at "ZZ18") => `(tactic| skip)
local macro_rules | `(tactic| walk_at "ZZ19") => `(tactic| skip)
local macro_rules | `(tactic| walk_at "ZZ20") => `(tactic| skip)
local macro_rules | `(tactic| walk_at "ZZ21") => `(tactic| skip)
local macro_rules | `(tactic| walk_at "ZZ22") => `(tactic| skip)
local macro_rules | `(tactic| walk_at "ZZ23") => `(tactic| skip)
local macro_rules | `(tactic| walk_at "ZZ24") => `(tactic| skip)
local macro_rules | `(tactic| walk_at "ZZ25") => `(tactic| skip)
local macro_rules | `(tactic| walk_at "ZZ26") => `(tactic| skip)
local macro_rules | `(tactic| walk_at "ZZ27") => `(tactic| skip)
local macro_rules | `(tactic| walk_at "ZZ28") => `(tactic| skip)
local macro_rules | `(tactic| walk_at "ZZ29") => `(tactic| skip)
theorem rs6 {M : Model} {A : Around} {E : Value → Shared → Prop} {s : Shared} {env : Env} {pos : Pos} {Q : Flow → Shared → Prop} (h : wpAny M A (exec (.Pass pos) env) Q E s) : wpAny M A (exec (.Pass pos) env) Q E s := by
  w_top off
  first | (walk1; fail) | exact h
end Mine
end
section
open PySem PySem.W PySem.Calls PyProof.Rows
set_option maxRecDepth 100000
set_option maxHeartbeats 2000000
set_option rowWalk.seconds 0
namespace Mine
local macro_rules | `(tactic| k_all) => `(tactic| assumption)
local macro_rules | `(tactic| walk_at "call builtin:len") => `(tactic| (k_here; (with_reducible show wpAny _ _ (call (Value.builtin "len") [Value.ref _]) _ _ _); k_dflt (refine kda_len (knd := PySem.intKind _ _) (by k_asm) (by k_mem) (by k_asm) (by k_asm) (by omega) ?_)))
theorem take_snoc {ks : List (Int × Value)} {acc : List Value} {i : Nat} {k : Int} {x v : Value} (h : IntsAre acc ((ks.map (·.1)).take i)) (hx : ks[i]? = some (k, x)) (hv : Value.isInt k v = true) : IntsAre (acc ++ [v]) ((ks.map (·.1)).take (i + 1)) := by
  obtain ⟨t, rfl⟩ := Value.isInt_shape hv
  have hlt : i < ks.length := by
    rcases Nat.lt_or_ge i ks.length with q | q
    · exact q
    · rw [List.getElem?_eq_none q] at hx; cases hx
  rw [List.getElem?_eq_getElem hlt] at hx
  rw [List.take_succ_eq_append_getElem (by simpa using hlt)]
  have e : (ks.map (·.1))[i]'(by simpa using hlt) = k := by rw [List.getElem_map, Option.some.inj hx]
  rw [e]
  exact h.append (.cons k t .nil)
theorem sorted_tree {w : World} {mean : ExcName → Option Value} {mg mb : Str → Option Value} {gd : Option (List Code)} {cn : Str} {nms : List (Str × NameKind)} {sg sc : Bool} {mo : List (Str × Const)} {a : Addr} {ccd : Value} {cl : List (Str × Addr)} {outer : List Env} {A₀ : Around} {base h₀ : Heap} {L : Addr} {m : Str → Option Value} {rest : List (Addr × Obj)} {s : Shared}
    {Q E : Value → Shared → Prop} {g d ga na aa : Addr} {t1 t2 t3 : Tok} {on : Obj} {nks : List (Int × Value)}
    (B : Below A₀ base outer h₀) (F : Fr h₀ L s.heap m) (X : (hd.heap_39 w.params).In h₀) (N : News h₀ L s.heap ((g, instObj 629 d) :: (d, dictOf (DEg w t1 t2 t3 ga na aa) 3) :: (na, on) :: rest)) (T : Top TP LS mean mg mb h₀)
    (hon : on.IsDictOf (PySem.intKind PP w) nks) (lna : (na == sysModules) = false) (hlen : nks.length ≤ 11)
    (h : ∀ h' tk vs' ns' e r, Fr h₀ L h' m → News h₀ L h' ((r, listOf (List.toArray vs') e) :: (g, instObj 629 d) :: (d, dictOf (DEg w t1 t2 t3 ga na aa) 3) :: (na, on) :: rest) → IntsAre vs' ns' → ns'.Perm (nks.map (·.1)) → ns'.Pairwise (· ≤ ·) → Q (.ref r) { s with heap := h', toks := tk }) :
    wpAny (model PP w) (ktrTop 302 7 gd cn { kind := .function, names := nms, isGenerator := sg, isCoroutine := sc, more := mo } L a ccd cl outer) (call (.builtin "sorted") [.ref g]) Q E s := by
  refine of_mk ?_
  k_fill
  intro _
  refine sorted_own F X (x := g) (C := 629) (f := 410) (f2 := 424) (od := some (dictOf (DEg w t1 t2 t3 ga na aa) 3)) (ox := instObj 629 d) ?I (by k_is) (by k_is) (by k_is) ?_
  case I => exact ⟨(N _ (.head _)).1, rfl, rfl, (N _ (.tail _ (.head _))).1⟩
  intro S h₁ hS hk hS₁
  have F₁ : Fr h₀ L h₁ m := F.kept hk
  have N₁ : News h₀ L h₁ ((S, listOf #[] 0) :: (g, instObj 629 d) :: (d, dictOf (DEg w t1 t2 t3 ga na aa) 3) :: (na, on) :: rest) := N.kept_cons F hk (Nat.le_of_eq hS.symm) hS₁
  have hSlt : ∀ p ∈ (g, instObj 629 d) :: (d, dictOf (DEg w t1 t2 t3 ga na aa) 3) :: (na, on) :: rest, p.1 < S := fun p hp => hS ▸ Heap.lt_size (N p hp).1
  clear F N hk
  show wpAny _ (ktrTop 302 9 gd cn { kind := .function, names := nms, isGenerator := sg, isCoroutine := sc, more := mo } L a ccd cl outer) _ _ _ _
  k_steps
  rename_i g' L' h2 FG F2 N2 B2 X2 T2 I h3 o ep F3 N3 hi ha l1 kF kN Tc kX
  clear F2 N2 B2 X2 T2 F3 N3 FG
  have hI : h3.IsKeyIter I na 0 nks.length ep := hi.at (kN (I, o) (.head _)).1
  have hna : h3.DictAt (PySem.intKind PP w) na nks ep := ha.dictAt (kN (na, on) (by simp)).1
  refine wpAny_specialOf hI.typeIs PySem.F.slot_dict_keyiterator_next.lookup ?_
  refine ⟨⟨instObj 629 d, some (dictOf (DEg w t1 t2 t3 ga na aa) 3), X.keeps kF.keep, (kN (g, _) (by simp)).1, rfl, rfl, (kN (d, _) (by simp)).1⟩, ?_⟩
  show wpAny _ (ktrTop 302 9 gd cn { kind := .function, names := nms, isGenerator := sg, isCoroutine := sc, more := mo } L a ccd cl outer) _ _ _ _
  have kF' : Fr h₀ L h3 m := kF
  have kN' : News h₀ L h3 ((I, o) :: (S, listOf #[] 0) :: (g, instObj 629 d) :: (d, dictOf (DEg w t1 t2 t3 ga na aa) 3) :: (na, on) :: rest) := kN
  clear kF kN F₁ N₁
  k_steps
  · rw [sizeLine_eq]; omega
  rename_i g4 L4 qk ek tk4 h4 FG F2 N2 B2 X2 T2 kF kN Tc kX
  clear F2 N2 B2 X2 T2 FG
  have hnS : ∀ p ∈ (I, o) :: (g, instObj 629 d) :: (d, dictOf (DEg w t1 t2 t3 ga na aa) 3) :: (na, on) :: rest, p.1 ≠ S := fun p hp => by
    rcases List.mem_cons.mp hp with rfl | hp
    · exact Nat.ne_of_gt l1.1
    · exact Nat.ne_of_lt (hSlt p hp)
  have hl4 : h4.NoLimit := (Top.nolimit T).keeps kF.keep
  have hcI : cStatics ≠ I ∧ cStatics ≠ S := by
    obtain ⟨mc, ⟨oS, _, _, hS0, _⟩, _⟩ := Top.nolimit T
    exact ⟨fun e => (by have := (kN (I, o) (.head _)).2.2; rw [← e, hS0] at this; cases this), fun e => (by have := (kN (S, listOf #[] 0) (.tail _ (.head _))).2.2; rw [← e, hS0] at this; cases this)⟩
  have hnaI : na ≠ I := Nat.ne_of_lt l1.2.2.2.1
  have hSa := (kN (S, listOf #[] 0) (by simp)).1
  refine ⟨I, _, _, _, _, _, _, fun i acc _ => IntsAre acc ((nks.map (·.1)).take i), 0, rfl, It.ofWalks (Walks.dictKeys (knd := PySem.intKind PP w) rfl I na hnaI nks ep) (fun i h st b hb => ?_) [] (fun p hp => nomatch hp), ?_, ?_, ?_, hcI.2, ?_, fun i acc s h' hj _ => hj, ⟨⟨hi.at (kN (I, o) (.head _)).1, ha.dictAt (kN (na, on) (by simp)).1⟩, fun p hp => nomatch hp⟩, hl4, hSa, .nil, ?_⟩
  · simp only [List.mem_cons, List.not_mem_nil, or_false] at hb
    rcases hb with rfl | rfl
    · obtain ⟨o, ho, _⟩ := st.1; exact ⟨o, ho⟩
    · obtain ⟨o, es, ho, _⟩ := st.2; exact ⟨o, ho⟩
  · rw [sizeLine_eq]; omega
  · simp only [List.map_nil, List.append_nil, List.mem_cons, List.not_mem_nil, or_false, not_or]
    exact ⟨(hnS _ (.head _)).symm, (hnS (na, on) (by simp)).symm⟩
  · simpa using hcI.1
  · rintro i acc s1 v s2 hlt hj ⟨⟨k, x, hx, hv⟩, -⟩ -
    exact take_snoc hj hx hv
  · intro s1 s2 acc c' hj hm hln hm2 hS2
    have hs2 : s2 = { heap := s2.heap, gens := s.gens, drawn := s.drawn, toks := s2.toks, os := s.os } := by
      have e1 := hm2.gens.eq
      have e2 := hm2.drawn
      have e3 := hm2.os
      cases s2
      simp only at e1 e2 e3
      subst e1; subst e2; subst e3
      rfl
    have keep : ∀ p ∈ (g, instObj 629 d) :: (d, dictOf (DEg w t1 t2 t3 ga na aa) 3) :: (na, on) :: rest, s2.heap.get? p.1 = some p.2 := fun p hp => hm2.heap _ _ (by
      simp only [List.mem_cons, List.not_mem_nil, or_false, not_or]
      refine ⟨hnS p (.tail _ hp), Nat.ne_of_lt ?_⟩
      have := hSlt p hp
      exact Nat.lt_trans this l1.1) (kN p (.tail _ (.tail _ hp))).1
    rw [List.take_of_length_le (by simp)] at hj
    refine ⟨_, (g, instObj 629 d) :: (d, dictOf (DEg w t1 t2 t3 ga na aa) 3) :: (na, on) :: rest, hj, ?_, ?_, fun p hp => ⟨keep p hp, (kN p (.tail _ (.tail _ hp))).2⟩, fun h' vs' ns' e r F' N' hr i' p' o' => ?_⟩
    · rw [hln]; omega
    · obtain ⟨oL, a1, a2, hL, a3⟩ := kF.ns
      refine ⟨⟨oL, a1, a2, hm2.heap _ _ ?_ hL, a3⟩, fun b o q => hm2.heap _ _ ?_ (kF.keep b o q), kF.above⟩
      · simp only [List.mem_cons, List.not_mem_nil, or_false, not_or]
        exact ⟨fun e => (kN (S, listOf #[] 0) (by simp)).2.1 e.symm, fun e => (kN (I, o) (by simp)).2.1 e.symm⟩
      · simp only [List.mem_cons, List.not_mem_nil, or_false, not_or]
        exact ⟨fun e => (by have := (kN _ (.tail _ (.head _))).2.2; rw [← e, q] at this; cases this), fun e => (by have := (kN _ (.head _)).2.2; rw [← e, q] at this; cases this)⟩
    · rw [hs2]
      exact h h' _ vs' ns' e r F' N' i' p' o'
end Mine
end
section
open PySem PySem.W PySem.Calls PyProof.Rows Builtin Builtin.Getset_descriptor
set_option maxRecDepth 100000
namespace Mine
section
variable {prog : Program} {w : World} {A : Around} {E : Value → Shared → Prop} {s : Shared} {K : Frag} {x C C' p d : Addr} {ox : Obj} {od : Option Obj} {name : Str} {expr : Bool} {R : Result → Shared → Prop}
theorem wpG_get_bind {g a : Value} {Q : Value → Shared → Prop} (X : K.In s.heap) (I : InstAt s.heap x ox C od) (hga : findIn K (.ref C) "__getattribute__" = some (some (.builtin "object.__getattribute__")))
    (hf : findObj K C od name = some (.bind g a)) (hk : findIn K (.ref C) "__getattr__" = some none)
    (h : wpG (model prog w) A.in1 (call g [a, .ref x, .ref C]) (fun v s' => wpAny (model prog w) A (handedOut v) Q E s') (fun e s' => wpAny (model prog w) A (noteIf true (.ref x) (.str name s.toks) e) (fun _ s'' => E e s'') E s') { s with toks := s.toks + 1 }) :
    wpG (model prog w) A (getAttr (.ref x) name expr) Q E s := by
  have L0 := I.type (M := model prog w)
  have L1 := looks_findIn (M := model prog w) X hga
  have L2 := looks_find (M := model prog w) X I hf
  have L3 := looks_findIn (M := model prog w) X hk
  obtain ⟨hh, gg, dr, t, os⟩ := s
  unfold getAttr getAttrBy
  refine wpG_bind (wpG_of (wpAny_mkText (wpG_holding (wpG_bind (wpG_of (L0.at (wpG_bind (wpG_of (L1.at ?_)))))))))
  show wpG _ _ (getAttrEveryday _ _ _) _ _ _
  refine wpG_bind (wpG_onRaise (wpG_runValue (codeG_builtin (by decide) F.plainObj_entry_getattr_hooked ?_)))
  show wpG (model prog w) A.in1 _ _ _ _
  refine wpG_bind (wpG_pure (wpG_bind (wpG_of (L0.at (wpG_bind (wpG_of (L2.at (wpG_bind (wpG_of (L3.at ?_)))))))))) 
  show wpG _ _ (holding [a] (call g [a, .ref x, .ref C]) >>= ret) _ _ _
  exact wpG_bind (wpG_holding (wpG_mono h (fun v s' z => wpG_pure (wpG_of z)) fun _ _ z => wpG_of z))
theorem wpG_ite {α : Type} {M : Model} {c : Prop} [Decidable c] {a b : Sem α} {Q : α → Shared → Prop} (h1 : c → wpG M A a Q E s) (h2 : ¬ c → wpG M A b Q E s) : wpG M A (if c then a else b) Q E s := by split <;> simp_all
/-- the dict of an object, handed out -/
def slotted (o : Obj) : Obj := if o.slots.isEmpty then { o with slots := #[none] } else o
theorem nsGet_none {M : Model} {A : Around} {E : Value → Shared → Prop} {s : Shared} {ns : Addr} {n : Str} {Q : Option Value → Shared → Prop} (X : K.In s.heap) (e : nsIn K ns n = some none) (h : Q none s) : wpAny M A (nsGet ns n) Q E s := by
  unfold nsIn at e
  split at e
  · rename_i c di es n' sl q
    have ho := X _ _ q
    split at e
    · cases e
    · rename_i hn
      split at e
      · cases e
      · rename_i hr
        unfold nsGet
        refine wpAny_bind (wpAny_loadPart ho ?_)
        have : nsLook n ⟨c, di, .dict es n', sl⟩ = pure none := nsLook_of (by unfold lookIn; dsimp only; rw [hn]; dsimp only; rw [if_neg hr])
        rw [this]
        exact wpAny_pure h
  · cases e
theorem dictOut_G {Q : Option Addr → Shared → Prop} {o : Obj} (X : K.In s.heap) (hx : s.heap.get? x = some ox) (hc : ox.cls = .ref C) (hd : ox.dict = some d) (hh : hasDictIn K C = true) (ho : s.heap.get? d = some o) (ht : nsIn K cStatics "_thread.count" = some none)
    (h : Q (some d) { s with heap := s.heap.update d slotted }) : wpG (model prog w) A (instanceDictHandedOut x) Q E s := by
  obtain ⟨cd, hcd, hhd⟩ := any_some hh
  have Lc := looks_clsIn (M := model prog w) X hcd
  obtain ⟨oc, odi, oda, osl⟩ := ox
  dsimp only at hc hd
  subst hc; subst hd
  unfold instanceDictHandedOut
  refine wpG_bind (wpG_of ?_)
  unfold instanceDict
  refine wpAny_bind (wpAny_loadPart hx ?_)
  dsimp only
  refine wpAny_bind (Lc.here ?_)
  rw [hhd]
  refine wpAny_pure (a := some d) ?_
  show wpG _ _ (loadPart x (some headPart) >>= _) _ _ _
  refine wpG_bind (wpG_of (wpAny_loadPart hx ?_))
  dsimp only
  have fin : wpG (model prog w) A (do update d fun o => if o.slots.isEmpty = true then { cls := o.cls, dict := o.dict, data := o.data, slots := #[none] } else o; pure (some d)) Q E s :=
    wpG_bind (wpG_of (wpAny_update ho (wpG_pure h)))
  refine wpG_bind (wpG_mono (Q := fun r s' => r = none ∧ s' = s) ?_ (fun r s' hr => by obtain ⟨rfl, rfl⟩ := hr; exact fin) fun _ _ e => e)
  show wpG _ _ (load d >>= _) _ _ _
  refine wpG_bind (wpG_of (wpAny_load ho ?_))
  refine wpG_ite (fun _ => wpG_pure ⟨rfl, rfl⟩) fun _ => ?_
  refine wpG_bind (wpG_stack fun st hst => ?_)
  have hnone : (st.findSome? fun (act : Code × Pos) => match act.1 with
      | .builtin "lifetime.gc.finalise" ⟨pos, gone⟩ => some (pos.head?, gone)
      | _ => none) = none := by
    rw [List.findSome?_eq_none_iff]
    intro act ha
    have := List.all_eq_true.mp hst act ha
    obtain ⟨c, pp⟩ := act
    unfold noFinC at this
    dsimp only at this ⊢
    split
    · simp at this
    · rfl
  split
  · rename_i heq
    exact nomatch (show some _ = none from heq.symm.trans hnone)
  · refine wpG_bind (wpG_of (nsGet_none X ht ?_))
    exact wpG_pure ⟨rfl, rfl⟩
/-- .. and once more: it has its mark already -/
theorem dictOut_A {Q : Option Addr → Shared → Prop} {o : Obj} (X : K.In s.heap) (hx : s.heap.get? x = some ox) (hc : ox.cls = .ref C) (hd : ox.dict = some d) (hh : hasDictIn K C = true) (ho : s.heap.get? d = some o) (ht : o.slots.isEmpty = false)
    (h : Q (some d) { s with heap := s.heap.update d slotted }) : wpAny (model prog w) A (instanceDictHandedOut x) Q E s := by
  obtain ⟨cd, hcd, hhd⟩ := any_some hh
  have Lc := looks_clsIn (M := model prog w) X hcd
  obtain ⟨oc, odi, oda, osl⟩ := ox
  dsimp only at hc hd
  subst hc; subst hd
  unfold instanceDictHandedOut
  refine wpAny_bind ?_
  unfold instanceDict
  refine wpAny_bind (wpAny_loadPart hx ?_)
  dsimp only
  refine wpAny_bind (Lc.here ?_)
  rw [hhd]
  refine wpAny_pure (a := some d) ?_
  show wpAny _ _ (loadPart x (some headPart) >>= _) _ _ _
  refine wpAny_bind (wpAny_loadPart hx ?_)
  dsimp only
  have fin : wpAny (model prog w) A (do update d fun o => if o.slots.isEmpty = true then { cls := o.cls, dict := o.dict, data := o.data, slots := #[none] } else o; pure (some d)) Q E s :=
    wpAny_bind (wpAny_update ho (wpAny_pure h))
  refine wpAny_bind (wpAny_mono (Q := fun r s' => r = none ∧ s' = s) ?_ (fun r s' hr => by obtain ⟨rfl, rfl⟩ := hr; exact fin) fun _ _ e => e)
  show wpAny _ _ (load d >>= _) _ _ _
  refine wpAny_bind (wpAny_load ho ?_)
  dsimp only
  rw [if_pos (by rw [ht]; rfl)]
  exact wpAny_pure ⟨rfl, rfl⟩
theorem entry_fdict : entryFor table "function.__dict__" = some Builtin.«function.__dict__» := entryFor_of_fast (by kernel_rfl)
theorem dictGet_G {n : Str} {tn : Tok} {st tp : Value} {o : Obj} (X : K.In s.heap) (I : InstAt s.heap x ox C od) (hp : recIn K p "getset_descriptor" = some [.str n tn, .ref C', .builtin "function.__dict__", st]) (hsub : mroIn K C (.ref C') = some true)
    (hsm : mroIn K C (.type "staticmethod") = some false) (hcm : mroIn K C (.type "classmethod") = some false) (hh : hasDictIn K C = true) (hd : ox.dict = some d) (ho : s.heap.get? d = some o) (ht : nsIn K cStatics "_thread.count" = some none)
    (h : R (.ok (.ret (.ref d))) { s with heap := s.heap.update d slotted }) : codeG (model prog w) A (.call (.builtin "getset_descriptor.__get__") ⟨[.ref p, .ref x, tp], []⟩) R s := by
  obtain ⟨dp, sl, hop⟩ := rec_of X hp
  have L0 := I.type (M := model prog w)
  have L1 := looks_mroIn (M := model prog w) X hsub
  have L2 := looks_mroIn (M := model prog w) X hsm
  have L3 := looks_mroIn (M := model prog w) X hcm
  have hx := I.at_
  have hcl := I.cls
  refine codeG_call_builtin (by decide) KF.slot_gs.plain KF.entry_gs (KF.slot_gs.check _ _ _ _ _ _ _ _ ⟨_, hop, rfl⟩ (KF.args_gs _ _ _) ?_)
  unfold Builtin.«getset_descriptor.__get__» descrGet
  rw [dga_obj]
  refine wpG_bind (wpG_pure ?_)
  dsimp only
  unfold descrGetter
  dsimp only
  have pre : ∀ {Q : Unit → Shared → Prop} {E : Value → Shared → Prop}, Q () s → wpAny (model prog w) A.in1 (descrCheckInstance (.ref p) (.ref x)) Q E s := fun hq => by
    unfold descrCheckInstance descrNameAndClass isInstance
    refine wpAny_bind (wpAny_bind ((looks_field hop 0 rfl).here ?_))
    refine wpAny_bind ((looks_field hop 1 rfl).here (wpAny_pure ?_))
    refine wpAny_bind (wpAny_bind (L0.here (L1.here ?_)))
    exact wpAny_pure hq
  refine wpG_bind (wpG_of (pre ?_))
  refine wpG_bind (wpG_of ((looks_field hop 2 rfl).here ?_))
  refine wpG_bind (wpG_of (wpAny_rule ?_))
  unfold descrItself
  refine wpG_bind (wpG_of (wpAny_bind (wpAny_fieldsOf hop rfl (wpAny_pure ?_))))
  refine wpG_pure ⟨plainId_quiet (by decide +kernel) _, codeG_builtin (by decide) entry_fdict ?_⟩
  rw [Around.under_plainId (by decide +kernel) _]
  unfold Builtin.«function.__dict__»
  have both : ∀ {Q : Bool → Shared → Prop} {E : Value → Shared → Prop}, Q false s → wpAny (model prog w) A.in1 (isInstance (.ref x) (.type "staticmethod") <||> isInstance (.ref x) (.type "classmethod")) Q E s := fun hq => by
    unfold isInstance
    refine wpAny_bind (wpAny_bind (L0.here (L2.here ?_)))
    exact wpAny_bind (L0.here (L3.here hq))
  show wpG _ _ ((isInstance (.ref x) (.type "staticmethod") <||> isInstance (.ref x) (.type "classmethod")) >>= _) _ _ _
  refine wpG_bind (wpG_of (both ?_))
  show wpG _ _ (instanceDictHandedOut x >>= _) _ _ _
  exact wpG_bind (dictOut_G X hx hcl hd hh ho ht (wpG_pure h))
theorem dictGet_A {n : Str} {tn : Tok} {st tp : Value} {o : Obj} (X : K.In s.heap) (I : InstAt s.heap x ox C od) (hp : recIn K p "getset_descriptor" = some [.str n tn, .ref C', .builtin "function.__dict__", st]) (hsub : mroIn K C (.ref C') = some true)
    (hsm : mroIn K C (.type "staticmethod") = some false) (hcm : mroIn K C (.type "classmethod") = some false) (hh : hasDictIn K C = true) (hd : ox.dict = some d) (ho : s.heap.get? d = some o) (ht : o.slots.isEmpty = false)
    (h : R (.ok (.ret (.ref d))) { s with heap := s.heap.update d slotted }) : codeAny (model prog w) A (.call (.builtin "getset_descriptor.__get__") ⟨[.ref p, .ref x, tp], []⟩) R s := by
  obtain ⟨dp, sl, hop⟩ := rec_of X hp
  have L0 := I.type (M := model prog w)
  have L1 := looks_mroIn (M := model prog w) X hsub
  have L2 := looks_mroIn (M := model prog w) X hsm
  have L3 := looks_mroIn (M := model prog w) X hcm
  have hx := I.at_
  have hcl := I.cls
  refine codeAny_call_builtin KF.slot_gs.plain KF.entry_gs (KF.slot_gs.check _ _ _ _ _ _ _ _ ⟨_, hop, rfl⟩ (KF.args_gs _ _ _) ?_)
  unfold Builtin.«getset_descriptor.__get__» descrGet
  rw [dga_obj]
  refine wpAny_bind (wpAny_pure ?_)
  dsimp only
  unfold descrGetter
  dsimp only
  have pre : ∀ {Q : Unit → Shared → Prop} {E : Value → Shared → Prop}, Q () s → wpAny (model prog w) A.in1 (descrCheckInstance (.ref p) (.ref x)) Q E s := fun hq => by
    unfold descrCheckInstance descrNameAndClass isInstance
    refine wpAny_bind (wpAny_bind ((looks_field hop 0 rfl).here ?_))
    refine wpAny_bind ((looks_field hop 1 rfl).here (wpAny_pure ?_))
    refine wpAny_bind (wpAny_bind (L0.here (L1.here ?_)))
    exact wpAny_pure hq
  refine wpAny_bind (pre ?_)
  refine wpAny_bind ((looks_field hop 2 rfl).here ?_)
  refine wpAny_bind (wpAny_rule ?_)
  unfold descrItself
  refine wpAny_bind (wpAny_bind (wpAny_fieldsOf hop rfl (wpAny_pure ?_)))
  refine wpAny_pure ⟨plainId_quiet (by decide +kernel) _, codeAny_builtin entry_fdict ?_⟩
  rw [Around.under_plainId (by decide +kernel) _]
  unfold Builtin.«function.__dict__»
  have both : ∀ {Q : Bool → Shared → Prop} {E : Value → Shared → Prop}, Q false s → wpAny (model prog w) A.in1 (isInstance (.ref x) (.type "staticmethod") <||> isInstance (.ref x) (.type "classmethod")) Q E s := fun hq => by
    unfold isInstance
    refine wpAny_bind (wpAny_bind (L0.here (L2.here ?_)))
    exact wpAny_bind (L0.here (L3.here hq))
  show wpAny _ _ ((isInstance (.ref x) (.type "staticmethod") <||> isInstance (.ref x) (.type "classmethod")) >>= _) _ _ _
  refine wpAny_bind (both ?_)
  show wpAny _ _ (instanceDictHandedOut x >>= _) _ _ _
  exact wpAny_bind (dictOut_A X hx hcl hd hh ho ht (wpAny_pure h))
end
end Mine
end
section
open PySem PySem.W PySem.Calls PyProof.Rows
set_option maxRecDepth 100000
namespace Mine
/-- an object's dict that has been handed out: it bears a mark -/
abbrev dictS (es : List DictEntry) (n : Nat) : Obj := { cls := .type "dict", data := .dict es.toArray n, slots := #[none] }
theorem slotted_of (es : List DictEntry) (n : Nat) : slotted (dictOf es n) = dictS es n := rfl
theorem slotted_ofS (es : List DictEntry) (n : Nat) : slotted (dictS es n) = dictS es n := rfl
section
variable {prog : Program} {w : World} {A : Around} {E : Value → Shared → Prop} {s : Shared} {K : Frag} {x C d L : Addr} {h₀ : Heap} {m : Str → Option Value} {news : List (Addr × Obj)} {ox : Obj} {name : Str} {es : List DictEntry} {n : Nat}
theorem keys_lit (prog : Program) (w : World) (l : List (Str × Tok × Value)) : PySem.KeysOf (PySem.strKind prog w) (List.map (fun p => (DictEntry.mk (PyData.keyHash w.params p.1) (.str p.1 p.2.1) p.2.2)) l).toArray := by
  intro e he
  obtain ⟨p, hp, rfl⟩ := List.mem_map.mp (List.mem_toArray.mp he)
  exact ⟨p.1, strKind_is prog w p.1 p.2.1, rfl⟩
theorem keys_snoc {name : Str} {es : List DictEntry} {prog : Program} {w : World} {t : Tok} {v : Value} (h : PySem.KeysOf (PySem.strKind prog w) es.toArray) : PySem.KeysOf (PySem.strKind prog w) (es ++ [DictEntry.mk (PyData.keyHash w.params name) (.str name t) v]).toArray := by
  have := PySem.KeysOf.push h (strKind_is prog w name t) v
  rw [List.push_toArray] at this
  exact this
theorem none_idx (hl : getL name es = some none) : (es.toArray.findIdx? fun e => (PySem.strKind prog w).is name e.key) = none := by
  have e : ∀ v : Value, (PySem.strKind prog w).is name v = v.isStr name := fun v => (PySem.strKind prog w).strs name name 0 v (strKind_is prog w name 0)
  rw [Array.findIdx?_eq_none_iff]
  intro en hen
  have hf : es.find? (·.key.isStr name) = none := by
    unfold getL at hl
    split at hl
    · cases hl
    · assumption
  have := List.find?_eq_none.mp hf en (List.mem_toArray.mp hen)
  rw [e]
  simpa using this
theorem getS_own {expr : Bool} {Q : Value → Shared → Prop} {attr : Option Value} {v : Value} (F : Fr h₀ L s.heap m) (X₀ : K.In h₀) (I : InstAt s.heap x ox C (some (dictS es n))) (hg : plainGet K C name = true) (hh : hasDictIn K C = true)
    (ha : findIn K (.ref C) name = some attr) (hn : noGet K attr = true) (hl : getL name es = some (some v)) (hv : handedIn v = true) (h : Q v { s with toks := s.toks + 1 }) :
    wpAny (model prog w) A (getAttr (.ref x) name expr) Q E s :=
  get_value (X₀.keeps F.keep) I (plainGet_of hg).1 (findObj_own hh ha hn (by show getL name es = _; exact hl)) hv h
theorem methS_inst {pl : Sem Bool} {Q : Value × List Value → Shared → Prop} {f : Addr} (F : Fr h₀ L s.heap m) (X₀ : K.In h₀) (I : InstAt s.heap x ox C (some (dictS es n))) (hg : plainGet K C name = true)
    (hf : findIn K (.ref C) name = some (some (.ref f))) (ht : isFn K (.ref f) = true) (hl : getL name es = some none) (h : Q (.ref f, [.ref x]) s) : wpAny (model prog w) A (getMethod (.ref x) name pl) Q E s :=
  method_fn (X₀.keeps F.keep) I (plainGet_of hg).1 (plainGet_of hg).2 hf (beq_iff_eq.mp ht) (by show (getL name es).map _ = _; rw [hl]; rfl) h
theorem findObj_ndS {a g : Value} {o : Obj} (hh : hasDictIn K C = true) (ha : findIn K (.ref C) name = some (some a)) (hn : specialIn K a "__get__" = some (some g)) (ht : takesIn K a = some false) (hc : copiedNames.contains name = false) (hl : lookIn name o = some none) :
    findObj K C (some o) name = some (.bind g a) := by
  obtain ⟨cd, hc', hd⟩ := any_some hh
  unfold findObj
  have ho : W.ownOf cd (some o) name = some none := by unfold W.ownOf; rw [if_pos hd]; exact hl
  rw [hc', Option.bind_some, ha, Option.bind_some]
  simp only [hn, ht, Option.bind_some, ho, hc, Bool.false_and, Bool.false_eq_true, if_false]
/-- a cached property of an object, its name not yet in its dict -/
theorem get_cprop {expr : Bool} {Q : Value → Shared → Prop} {a f : Addr} {o : Obj} (F : Fr h₀ L s.heap m) (X₀ : K.In h₀) (I : InstAt s.heap x ox C (some o)) (hg : plainGet K C name = true) (hh : hasDictIn K C = true)
    (ha : findIn K (.ref C) name = some (some (.ref a))) (hn : specialIn K (.ref a) "__get__" = some (some (.ref f))) (ht : takesIn K (.ref a) = some false) (hc : copiedNames.contains name = false) (hl : lookIn name o = some none)
    (h : wpAny (model prog w) A.in1 (call (.ref f) [.ref a, .ref x, .ref C]) (fun v s' => wpAny (model prog w) A (handedOut v) Q E s') (fun e s' => wpAny (model prog w) A (noteIf true (.ref x) (.str name s.toks) e) (fun _ s'' => E e s'') E s') { s with toks := s.toks + 1 }) :
    wpAny (model prog w) A (getAttr (.ref x) name expr) Q E s :=
  get_bind (X₀.keeps F.keep) I (plainGet_of hg).1 (findObj_ndS hh ha hn ht hc hl) (plainGet_of hg).2 h
theorem dictS_type (ho : s.heap.get? d = some (dictS es n)) : s.TypeIs (.ref d) "dict" := ⟨_, ho, rfl⟩
theorem dictS_getm {pl : Sem Bool} {Q : Value × List Value → Shared → Prop} (ho : s.heap.get? d = some (dictS es n)) (h : Q (.builtin "dict.get", [.ref d]) s) : wpAny (model prog w) A (getMethod (.ref d) "get" pl) Q E s :=
  getMethod_builtin (dictS_type ho) PySem.F.plainAttrs_dict PySem.F.slot_dict_get PySem.F.type_dict_get (fun a e => by injection e with e; subst e; exact ⟨_, ho, rfl⟩) h
theorem dictS_get2 {Q : Value → Shared → Prop} {t : Tok} {dflt : Value} (ho : s.heap.get? d = some (dictS es n)) (hk : PySem.KeysOf (PySem.strKind prog w) es.toArray) (hsys : (d == sysModules) = false) (hl : getL name es = some none)
    (h : Q dflt { s with toks := s.toks + 1 }) : wpAny (model prog w) A (call (.builtin "dict.get") [.ref d, .str name t, dflt]) Q E s := by
  refine wpAny_call_entry PySem.F.slot_dict_get (dictS_type ho) PySem.F.entry_dict_get ?_ (PySem.F.args_dict_get_3 _ _ _)
  show wpAny _ _ (dictGet d (.str name t) >>= _) _ _ s
  refine wpAny_bind ?_
  unfold dictGet
  refine wpAny_holding ?_
  refine wpAny_bind ((PySem.strKind prog w).pyHash (strKind_is prog w name t) (wpAny_bind (wpAny_dictFind_of (s := { s with toks := s.toks + 1 }) (strKind_is prog w name t) ho rfl hk ?_)))
  rw [none_idx hl]
  refine wpAny_pure ?_
  show wpAny _ _ (Builtin.Dict.missed d (.str name t) >>= _) _ _ _
  exact wpAny_bind (wpAny_missed_other hsys (wpAny_pure ⟨dflt, rfl, h⟩))
theorem dictS_set {Q : Unit → Shared → Prop} {t : Tok} {v : Value} {news' : List (Addr × Obj)} (F : Fr h₀ L s.heap m) (N : News h₀ L s.heap news) (U : Upd d (dictS es n) (dictS (es ++ [⟨PyData.keyHash w.params name, .str name t, v⟩]) (n + 1)) news news') (hk : PySem.KeysOf (PySem.strKind prog w) es.toArray)
    (hl : getL name es = some none) (hz : es.length ≤ 1000)
    (h : ∀ h', Fr h₀ L h' m → News h₀ L h' news' → Q () { s with heap := h', toks := s.toks + 1 }) : wpAny (model prog w) A (setItem (.ref d) (.str name t) v) Q E s := by
  obtain ⟨pre, post, rfl, rfl, a, b⟩ := U.split
  have hm := N (d, dictS es n) (List.mem_append_right _ (.head _))
  have ho := hm.1
  unfold setItem
  refine wpAny_holding ?_
  refine wpAny_bind (wpAny_sequenceKey (dictS_type ho) (by decide) ?_)
  refine wpAny_bind (wpAny_callSpecial?_slot (name := Str.ofString "__setitem__") (dictS_type ho) PySem.F.slot_dict_setitem
    (wpAny_call_entry PySem.F.slot_dict_setitem (dictS_type ho) PySem.F.entry_dict_setitem ?_ (PySem.F.args_dict_setitem_3 _ _ _)))
  show wpAny _ _ (Builtin.Dict.notOrdered "__setitem__" ⟨[.ref d, .str name t, v], []⟩ >>= _) _ _ s
  refine wpAny_bind (wpAny_notOrdered_dict (dictS_type ho) ?_)
  show wpAny _ _ (dictSet d (.str name t) v >>= _) _ _ s
  refine wpAny_bind ?_
  unfold dictSet
  refine wpAny_holding ?_
  refine wpAny_bind ((PySem.strKind prog w).pyHash (strKind_is prog w name t) ?_)
  unfold dictSetHashed
  refine wpAny_holding ?_
  refine wpAny_bind (wpAny_dictFind_of (s := { s with toks := s.toks + 1 }) (strKind_is prog w name t) ho rfl hk ?_)
  rw [none_idx hl]
  have hes : es.toArray.size ≤ sizeLine := by rw [List.size_toArray, sizeLine_eq]; omega
  refine wpAny_bind (wpAny_rule (wpAny_updateDictKeys (hz := hes) (s := { s with toks := s.toks + 1 }) ho rfl ?_))
  have hs : Heap.SameBut d s.heap (s.heap.update d (Obj.mapDictKeys (·.push ⟨(PySem.strKind prog w).hash name, .str name t, v⟩))) := Heap.SameBut.update ..
  have hself : (s.heap.update d (Obj.mapDictKeys (·.push ⟨(PySem.strKind prog w).hash name, .str name t, v⟩))).get? d = some (dictS (es ++ [⟨PyData.keyHash w.params name, .str name t, v⟩]) (n + 1)) := by
    rw [Heap.get?_update_self _ ho rfl]
    show some ({ cls := .type "dict", data := .dict (es.toArray.push ⟨PyData.keyHash w.params name, .str name t, v⟩) (n + 1), slots := #[none] } : Obj) = _
    simp
  exact wpAny_pure ⟨.none, rfl, wpAny_pure (h _ (F.change hs hm.2.1 hm.2.2) (N.setIn a b hs hself))⟩
/-- the mark is laid -/
theorem slot_K {h : Heap} {o : Obj} {news' : List (Addr × Obj)} (F : Fr h₀ L h m) (N : News h₀ L h news) (U : Upd d o (slotted o) news news') (hf : (slotted o).isFreed = false) : Fr h₀ L (h.update d slotted) m ∧ News h₀ L (h.update d slotted) news' := by
  obtain ⟨pre, post, rfl, rfl, a, b⟩ := U.split
  have hm := N (d, o) (List.mem_append_right _ (.head _))
  have hs : Heap.SameBut d h (h.update d slotted) := Heap.SameBut.update ..
  exact ⟨F.change hs hm.2.1 hm.2.2, N.setIn a b hs (Heap.get?_update_self _ hm.1 hf)⟩
end
end Mine
end
section
open PySem PySem.W PySem.Calls PyProof.Rows
set_option maxRecDepth 100000
namespace Mine
section
variable {prog : Program} {w : World} {A A₀ : Around} {E : Value → Shared → Prop} {s : Shared} {K : Frag} {C L : Addr} {h₀ base : Heap} {m mg mb : Str → Option Value} {news : List (Addr × Obj)} {p : Program} {loose : List Str} {mean : ExcName → Option Value}
theorem codeG_def {env : Env} {outer : List Env} {R : Result → Shared → Prop} {name qual : Str} {params : Arguments} {body : List Stmt} {scope : Scope} {dV kV doc pm cdv ct oc : Value} {an od : Option Addr} {osl : Array (Option Value)} {f : Addr} {args : Args} {binds : List (Str × Value)}
    (B : Below A₀ base outer h₀) (F : Fr h₀ L s.heap m) (X₀ : K.In h₀) (N : News h₀ L s.heap news) (T : Top p loose mean mg mb h₀) (hA : A.frames = some (env :: outer)) (hf : env.frame = some L) (hke : env.scope.kind = .function)
    (ho : K.lookup f = some ⟨oc, od, .func (fnOf name qual params body scope dV kV doc pm an cdv ct), osl⟩) (hcd : codeIn K cdv qual = true) (hroom : A.depth < recursionLimit)
    (hbind : BindsTo s (fnOf name qual params body scope dV kV doc pm an cdv ct) args binds) (hloc : ∀ y ∈ binds, scope.names.lookup y.1 = some .local)
    (h : ∀ g L' h₁, Fr h₀ L g m → Fr g L' h₁ (fun y => binds.reverse.lookup y) → News g L' h₁ news → Below A base (env :: outer) g → K.In g → Top p loose mean mg mb g →
      wpG (model prog w) (A.deeper (envOf qual scope L' f cdv)) (execs body (envOf qual scope L' f cdv))
        (fun fl s' => LeaveK h₀ L m g R (match fl with | .ret v => v | _ => .none) s')
        (fun e s' => wpAny (model prog w) (A.deeper (envOf qual scope L' f cdv)) (leaving (envOf qual scope L' f cdv) e) (fun _ s'' => R (.error e) s'') (fun e' s'' => R (.error e') s'') s')
        { s with heap := h₁, toks := s.toks + binds.length })
    (hco : scope.isCoroutine = false) (hgen : scope.isGenerator = false) (hk : scope.kind = .function) (hcell : ∀ x ∈ scope.names, x.2 ≠ .cell) : codeG (model prog w) A (.call (.ref f) args) R s := by
  obtain ⟨FG, BG, st, lv⟩ := groundX (R := R) B F N hA hf hke
  have hl := T.nolimit.keeps F.keep
  refine codeG_call_function hroom ((X₀.keeps F.keep) _ _ ho) rfl hco hgen rfl (codeRec_of (X₀.keeps F.keep) hcd) (hbind _ _ _ _ ?_)
  refine wpAny_newFunctionEnv hcell hloc (fun h₁ hns hsb => ⟨hl.fresh _ hsb, ?_⟩) hk
  have hk₁ : ∀ b o, s.heap.get? b = some o → h₁.get? b = some o := fun b o e => hsb.extBut b o (Nat.ne_of_lt (Heap.lt_size e)) (Heap.get?_push_of_some _ e)
  exact wpG_mono (h _ s.heap.objs.size h₁ FG ⟨hns, fun b o e => hk₁ b o (of_hideAll _ e), Nat.le_of_eq (hideAll_size _ _)⟩
    (fun p hp => ⟨hk₁ _ _ (N p hp).1, Nat.ne_of_lt (Heap.lt_size (N p hp).1), hideAll_none _ (List.mem_map_of_mem hp)⟩) BG (X₀.keeps st) (T.keeps st)) (fun fl s' hl => lv _ _ hl) fun _ _ y => y
end
end Mine
end
section
open PySem PySem.W PySem.Calls PyProof.Rows Builtin Builtin.ObjectAttr
set_option maxRecDepth 100000
namespace Mine
theorem plain_hasattr : plainId "hasattr" = true := by decide +kernel
theorem entry_hasattr : entryFor table "hasattr" = some Builtin.«hasattr» := entryFor_of_fast (by kernel_rfl)
theorem kind_hasattr : builtinKind "hasattr" = none := by decide +kernel
theorem args_hasattr (a b : Value) : argsOk "hasattr" ⟨[a, b], []⟩ := by unfold argsOk; kernel_rfl
section
variable {prog : Program} {w : World} {A : Around} {E : Value → Shared → Prop} {s : Shared} {K : Frag} {x C : Addr} {ox : Obj} {od : Option Obj} {name : Str} {cd : ClassData}
theorem getattr_miss {Q : Value → Shared → Prop} {t : Tok} (X : K.In s.heap) (I : InstAt s.heap x ox C od) (hA : A.handled = none) (hga : findIn K (.ref C) "__getattribute__" = some (some (.builtin "object.__getattribute__"))) (hk : findIn K (.ref C) "__getattr__" = some none)
    (hf : findObj K C od name = some .missing) (hcd : clsIn K C = some cd) (hfold : cd.name.cps.foldl (fun k c => k + (Str.utf8Of c).length) 0 ≤ 100) (hn : cd.name.toString.length ≤ 60) (hz : name.length ≤ 60)
    (h : ∀ h' tk e, Heap.NewAttrErr s.heap h' e (.ref x) name → E (.ref e) { s with heap := h', toks := tk }) :
    wpAny (model prog w) A (getAttrBy (.ref x) (.str name t) false) Q E s := by
  have L0 := I.type (M := model prog w)
  have L1 := looks_findIn (M := model prog w) X hga
  have L2 := looks_find (M := model prog w) X I hf
  have L3 := looks_findIn (M := model prog w) X hk
  have L4 := looks_clsIn (M := model prog w) X hcd
  unfold getAttrBy
  refine wpAny_holding (wpAny_bind (L0.here (wpAny_bind (L1.here ?_))))
  show wpAny _ _ (getAttrEveryday _ _ _) _ _ _
  refine wpAny_bind (wpAny_onRaise (wpAny_runValue (codeAny_builtin F.plainObj_entry_getattr_hooked ?_)))
  show wpAny (model prog w) A.in1 _ _ _ _
  refine wpAny_bind (wpAny_pure (wpAny_bind (L0.here (wpAny_bind (L2.here (wpAny_bind (L3.here ?_)))))))
  show wpAny _ _ (noSuchAttribute (.ref x) name : Sem Fin) _ _ _
  unfold noSuchAttribute
  unfold typeNameOfCut shownTypeOf
  refine wpAny_bind (wpAny_bind (wpAny_bind (L0.here (wpAny_pure ?_))))
  unfold typeNameCut
  dsimp only
  refine wpAny_bind (L4.here ?_)
  rw [if_pos hfold]
  refine wpAny_pure ?_
  refine wpAny_raiseAttrError (A := A.in1) hA (fun h' tk e hx => wpAny_pure (h h' tk e hx)) ?_
  refine attrMsg_fits ?_ (by rw [sizeLine_eq]; omega)
  show ("'" ++ cd.name.toString ++ "' object has no attribute '").length ≤ 90
  rw [String.length_append, String.length_append]
  have e1 : "'".length = 1 := by decide
  have e2 : "' object has no attribute '".length = 27 := by decide
  omega
theorem hasattr_miss {Q : Value → Shared → Prop} {t : Tok} (X : K.In s.heap) (I : InstAt s.heap x ox C od) (hA : A.handled = none) (hga : findIn K (.ref C) "__getattribute__" = some (some (.builtin "object.__getattribute__"))) (hk : findIn K (.ref C) "__getattr__" = some none)
    (hf : findObj K C od name = some .missing) (hcd : clsIn K C = some cd) (hfold : cd.name.cps.foldl (fun k c => k + (Str.utf8Of c).length) 0 ≤ 100) (hn : cd.name.toString.length ≤ 60) (hz : name.length ≤ 60) (hmod : mroIn K C (.type "module") = some false)
    (h : ∀ h' tk, (∀ b o, s.heap.get? b = some o → h'.get? b = some o) → Q (.bool false) { s with heap := h', toks := tk }) : wpAny (model prog w) A (call (.builtin "hasattr") [.ref x, .str name t]) Q E s := by
  have L0 := I.type (M := model prog w)
  have L5 := looks_mroIn (M := model prog w) X hmod
  refine call_function_entry kind_hasattr plain_hasattr entry_hasattr (args_hasattr _ _) ?_
  unfold Builtin.«hasattr»
  refine wpAny_bind (m := someArgs "hasattr" 2 2 _) (wpAny_of_eq (a := [Value.ref x, Value.str name t]) (by first | rfl | kernel_rfl!) ?_)
  dsimp only
  refine wpAny_bind (wpAny_mono (Q := fun _ s' => s' = s) ?a (fun _ s' e => ?_) fun _ _ e => e)
  case a =>
    show wpAny _ _ (asStr? (.str name t) >>= _) _ _ _
    refine wpAny_bind (m := asStr? (.str name t)) (wpAny_pure (a := some name) ?_)
    exact wpAny_pure rfl
  subst e
  rw [if_neg (show ¬ ((Value.ref x == Value.builtin "__main__.__loader__#opaque") = true) from Bool.false_ne_true)]
  refine wpAny_bind (L0.here ?_)
  dsimp only
  refine wpAny_bind (wpAny_mono (Q := fun r s'' => r = 0 ∧ s'' = s') ?b (fun r s'' e => ?_) fun _ _ e => e)
  case b =>
    show wpAny _ _ (asStr? (.str name t) >>= _) _ _ _
    refine wpAny_bind (m := asStr? (.str name t)) (wpAny_pure (a := some name) ?_)
    show wpAny _ _ (isInstance (.ref x) (.type "module") >>= _) _ _ _
    refine wpAny_bind ?_
    unfold isInstance
    refine wpAny_bind (L0.here (L5.here ?_))
    exact wpAny_pure ⟨rfl, rfl⟩
  obtain ⟨rfl, rfl⟩ := e
  rw [if_neg (by decide)]
  refine wpAny_bind ?_
  unfold getAttrBy?
  refine wpAny_bind (wpAny_attempt (getattr_miss X I hA hga hk hf hcd hfold hn hz fun h' tk e hx => ?_))
  obtain ⟨t', u, he⟩ := hx.there
  refine wpAny_bind (wpAny_isInstance (T := "AttributeError") (b := true) ⟨_, he, rfl⟩ sub_AttributeError ?_)
  refine wpAny_pure ?_
  exact wpAny_pure ⟨_, rfl, h h' tk hx.keeps⟩
theorem findObj_miss {o : Obj} (hh : hasDictIn K C = true) (ha : findIn K (.ref C) name = some none) (hc : copiedNames.contains name = false) (hl : lookIn name o = some none) : findObj K C (some o) name = some .missing := by
  obtain ⟨cd, hc', hd⟩ := any_some hh
  unfold findObj
  have ho : W.ownOf cd (some o) name = some none := by unfold W.ownOf; rw [if_pos hd]; exact hl
  rw [hc', Option.bind_some, ha, Option.bind_some]
  simp only [Option.bind_some, ho, hc, Bool.false_and, Bool.false_eq_true, if_false]
theorem hasattr_K {h₀ : Heap} {L : Addr} {m : Str → Option Value} {news : List (Addr × Obj)} {o : Obj} {Q : Value → Shared → Prop} {t : Tok} (F : Fr h₀ L s.heap m) (X₀ : K.In h₀) (N : News h₀ L s.heap news) (I : InstAt s.heap x ox C (some o)) (hA : A.handled = none) (hg : plainGet K C name = true) (hh : hasDictIn K C = true)
    (ha : findIn K (.ref C) name = some none) (hc : copiedNames.contains name = false) (hl : lookIn name o = some none) (hcd : clsIn K C = some cd) (hfold : cd.name.cps.foldl (fun k c => k + (Str.utf8Of c).length) 0 ≤ 100) (hn : cd.name.toString.length ≤ 60) (hz : name.length ≤ 60) (hmod : mroIn K C (.type "module") = some false)
    (h : ∀ h' tk, Fr h₀ L h' m → News h₀ L h' news → Q (.bool false) { s with heap := h', toks := tk }) : wpAny (model prog w) A (call (.builtin "hasattr") [.ref x, .str name t]) Q E s :=
  hasattr_miss (X₀.keeps F.keep) I hA (plainGet_of hg).1 (plainGet_of hg).2 (findObj_miss hh ha hc hl) hcd hfold hn hz hmod fun h' tk k => h h' tk (F.kept k) fun p hp => ⟨k _ _ (N p hp).1, (N p hp).2⟩
end
end Mine
end
section
open PySem PySem.W PySem.Calls PyProof.Rows
namespace Mine
local macro_rules | `(tactic| walk_at "ZZ0") => `(tactic| skip)
local macro_rules | `(tactic| walk_at "ZZ1") => `(tactic| skip)
local macro_rules | `(tactic| walk_at "ZZ2") => `(tactic| skip)
local macro_rules | `(tactic| walk_at "ZZ3") => `(tactic| skip)
local macro_rules | `(tactic| walk_at "ZZ4") => `(tactic| skip)
local macro_rules | `(tactic| walk_at "ZZ5") => `(tactic| skip)
local macro_rules | `(tactic| walk_at "ZZ6") => `(tactic| skip)
local macro_rules | `(tactic| walk_at "ZZ7") => `(tactic| skip)
local macro_rules | `(tactic| walk_at "ZZ8") => `(tactic| skip)
local macro_rules | `(tactic| walk_at "ZZ9") => `(tactic| skip)
local macro_rules | `(tactic| walk_at "ZZ10") => `(tactic| skip)
local macro_rules | `(tactic| walk_at "ZZ11") => `(tactic| skip)
local macro_rules | `(tactic| walk_at "ZZ12") => `(tactic| skip)
local macro_rules | `(tactic| walk_at "ZZ13") => `(tactic| skip)
local macro_rules | `(tactic| walk_at "ZZ14") => `(tactic| skip)
local macro_rules | `(tactic| walk_at "ZZ15") => `(tactic| skip)
local macro_rules | `(tactic| walk_at "ZZ16") => `(tactic| skip)
local macro_rules | `(tactic| walk_at "ZZ17") => `(tactic| skip)
local macro_rules | `(tactic| walk_at "ZZ18") => `(tactic| skip)
local macro_rules | `(tactic| walk_at "ZZ19") => `(tactic| skip)
local macro_rules | `(tactic| walk_at "ZZ20") => `(tactic| skip)
local macro_rules | `(tactic| walk_at "ZZ21") => `(tactic| skip)
local macro_rules | `(tactic| walk_at "ZZ22") => `(tactic| skip)
local macro_rules | `(tactic| walk_at "ZZ23") => `(tactic| skip)
local macro_rules | `(tactic| walk_at "ZZ24") => `(tactic| skip)
local macro_rules | `(tactic| walk_at "ZZ25") => `(tactic| skip)
local macro_rules | `(tactic| walk_at "ZZ26") => `(tactic| skip)
local macro_rules | `(tactic| walk_at "ZZ27") => `(tactic| skip)
local macro_rules | `(tactic| walk_at "ZZ28") => `(tactic| skip)
local macro_rules | `(tactic| walk_at "ZZ29") => `(tactic| skip)
theorem rs7 {M : Model} {A : Around} {E : Value → Shared → Prop} {s : Shared} {env : Env} {pos : Pos} {Q : Flow → Shared → Prop} (h : wpAny M A (exec (.Pass pos) env) Q E s) : wpAny M A (exec (.Pass pos) env) Q E s := by
  w_top off
  first | (walk1; fail) | exact h
end Mine
end
section
open PySem PySem.W PySem.Calls PyProof.Rows
set_option maxRecDepth 100000
set_option maxHeartbeats 2000000
set_option rowWalk.seconds 0
namespace Mine
local macro_rules | `(tactic| k_all) => `(tactic| assumption)
local macro_rules | `(tactic| walk_at "call builtin:len") => `(tactic| (k_here; (with_reducible show wpAny _ _ (call (Value.builtin "len") [Value.ref _]) _ _ _); k_dflt (refine kda_len (knd := PySem.intKind _ _) (by k_asm) (by k_mem) (by k_asm) (by k_asm) (by omega) ?_)))
theorem lookS {name : Str} {es : List DictEntry} {n : Nat} {r : Option (Option Value)} (h : getL name es = r) : lookIn name (dictS es n) = r := h
local macro_rules | `(tactic| walk_at "getAttr ref") => `(tactic| (k_here; k_dflt (refine' getS_own ?k1 ?k2 ?k3 ?k4 ?k5 ?k6 ?k7 ?k8 ?k9 ?_; (case k1 => k_asm); (case k2 => k_asm); (case k3 => k_inst); (case k4 => k_is); (case k5 => k_is); (case k6 => k_is); (case k7 => k_is); (case k8 => k_get); (case k9 => k_handed); k_whole)))
local macro_rules | `(tactic| walk_at "getMethod ref") => `(tactic| (k_here; k_dflt (first | ((with_reducible show wpAny _ _ (getMethod _ (Str.ofString "func") _) _ _ _); refine' kmu_own ?k1 ?k2 ?k3 ?k4 ?k5 ?_; (case k1 => k_asm); (case k2 => k_asm); (case k3 => k_inst); (case k4 => k_is); (case k5 => k_is); k_whole) | (refine' methS_inst ?k1 ?k2 ?k3 ?k4 ?k5 ?k6 ?k7 ?_; (case k1 => k_asm); (case k2 => k_asm); (case k3 => k_inst); (case k4 => k_is); (case k5 => k_is); (case k6 => k_is); (case k7 => k_get); k_whole) | (refine' dictS_getm (News.get (by k_asm) (by k_mem)) ?_; k_whole))))
local macro_rules | `(tactic| walk_at "call builtin:dict.get") => `(tactic| (k_here; (with_reducible show wpAny _ _ (call (Value.builtin "dict.get") [Value.ref _, Value.str _ _, _]) _ _ _); k_dflt (refine' dictS_get2 (News.get (by k_asm) (by k_mem)) ?k ?y ?l ?_; (case k => assumption); (case y => assumption); (case l => k_get); k_whole)))
local macro_rules | `(tactic| walk_at "setItem ref str") => `(tactic| (k_here; k_dflt (refine' dictS_set ?F ?N ?U ?k ?l ?z ?_; (case F => k_asm); (case N => k_asm); (case U => k_upd); (case k => assumption); (case l => k_get); (case z => simp); k_whole); intro h' F' N'))
local macro_rules | `(tactic| walk_at "call builtin:hasattr") => `(tactic| (k_here; k_dflt (refine' hasattr_K ?F ?X ?N ?I rfl ?g ?hh ?ha ?c ?l ?cd ?fo ?n ?z ?mo ?_; (case F => k_asm); (case X => k_asm); (case N => k_asm); (case I => k_inst); (case g => k_is); (case hh => k_is); (case ha => k_is); (case c => decide +kernel); (case l => (refine lookS ?_; k_get)); (case cd => k_is); (case fo => decide +kernel); (case n => decide +kernel); (case z => decide +kernel); (case mo => k_is); k_whole); intro h' tk' F' N'))
abbrev DEd (w : World) (ta : Tok) (aa : Addr) : List DictEntry := [⟨PyData.keyHash w.params (Str.ofString "_adjdict"), .str (Str.ofString "_adjdict") ta, .ref aa⟩]
abbrev DEe (w : World) (t1 t2 t3 t4 : Tok) (ga na aa ev : Addr) : List DictEntry := DEg w t1 t2 t3 ga na aa ++ [⟨PyData.keyHash w.params (Str.ofString "edges"), .str (Str.ofString "edges") t4, .ref ev⟩]
theorem keys_DEg (w : World) (t1 t2 t3 : Tok) (ga na aa : Addr) : PySem.KeysOf (PySem.strKind PP w) (DEg w t1 t2 t3 ga na aa).toArray := keys_lit PP w [(Str.ofString "graph", t1, .ref ga), (Str.ofString "_node", t2, .ref na), (Str.ofString "_adj", t3, .ref aa)]
theorem edges_get {w : World} {mean : ExcName → Option Value} {mg mb : Str → Option Value} {gd : Option (List Code)} {cn : Str} {nms : List (Str × NameKind)} {sg sc : Bool} {mo : List (Str × Const)} {a : Addr} {ccd : Value} {cl : List (Str × Addr)} {outer : List Env} {A₀ : Around} {base h₀ : Heap} {L : Addr} {m : Str → Option Value} {rest : List (Addr × Obj)} {s : Shared}
    {Q E : Value → Shared → Prop} {g d ga na aa : Addr} {t1 t2 t3 : Tok}
    (B : Below A₀ base outer h₀) (F : Fr h₀ L s.heap m) (X : (hd.heap_39 w.params).In h₀) (N : News h₀ L s.heap ((g, instObj 629 d) :: (d, dictOf (DEg w t1 t2 t3 ga na aa) 3) :: rest)) (T : Top TP LS mean mg mb h₀)
    (hds : (d == sysModules) = false) (hgd : g ≠ d) (hrd : ∀ p ∈ rest, p.1 ≠ d)
    (h : ∀ h' tk ev dv ta t4, Fr h₀ L h' m → News h₀ L h' ((ev, instObj 252 dv) :: (dv, dictOf (DEd w ta aa) 1) :: (g, instObj 629 d) :: (d, dictS (DEe w t1 t2 t3 t4 ga na aa ev) 4) :: rest) → (dv < ev ∧ g < dv ∧ d < dv ∧ AllLt dv rest) → Q (.ref ev) { s with heap := h', toks := tk }) :
    wpG (model PP w) (ktrTop 302 7 gd cn { kind := .function, names := nms, isGenerator := sg, isCoroutine := sc, more := mo } L a ccd cl outer) (getAttr (.ref g) "edges" true) Q E s := by
  refine of_mk ?_
  k_fill
  intro _
  have hkeys := keys_DEg w t1 t2 t3 ga na aa
  have hI : InstAt s.heap g (instObj 629 d) 629 (some (dictOf (DEg w t1 t2 t3 ga na aa) 3)) := ⟨(N _ (.head _)).1, rfl, rfl, (N _ (.tail _ (.head _))).1⟩
  refine wpG_get_bind (X.keeps F.keep) hI (by k_is) (findObj_ndS (a := .ref 541) (g := .ref 321) (by k_is) (by k_is) (by k_is) (by k_is) (by decide +kernel) (show getL (Str.ofString "edges") (DEg w t1 t2 t3 ga na aa) = some none by k_get)) (by k_is) ?_
  refine wpG_call ?_
  show codeG _ (ktrTop 302 8 gd cn { kind := .function, names := nms, isGenerator := sg, isCoroutine := sc, more := mo } L a ccd cl outer) _ _ _
  refine' codeG_def ?k1 ?k2 ?k3 ?k4 ?k5 ?kA ?kF ?kK ?k6 ?k7 ?k8 ?k9 ?kB ?_ ?c2 ?c3 ?c4 ?c5; (case kA => exact rfl); (case kF => exact rfl); (case kK => exact rfl); (case k1 => k_asm); (case k2 => k_asm); (case k3 => k_asm); (case k4 => k_asm); (case k5 => k_asm); (case k6 => k_is); (case k7 => k_is); (case k8 => k_room); (case k9 => first | exact BindsTo.of_eq rfl | exact binds_K (by k_in) rfl (by k_is) rfl rfl rfl | fail "k_enter: no rule for these arguments"); (case c5 => decide); (case kB => exact locs rfl); (case c2 => exact rfl); (case c3 => exact rfl); (case c4 => exact rfl)
  intro g' L' h' FG' F' N' B' X' T'
  refine wpG_execs_cons (wpG_of ?_)
  k_steps
  dsimp only
  refine wpG_execs_cons (wpG_of ?_)
  k_steps
  dsimp only
  refine wpG_execs_cons (wpG_Try (wpG_execs_cons (wpG_Assign_Name (wpG_Attribute_Name ?_))))
  k_steps
  have hI2 : InstAt h' g (instObj 629 d) 629 (some (dictOf (DEg w t1 t2 t3 ga na aa) 3)) := ⟨(N' _ (.head _)).1, rfl, rfl, (N' _ (.tail _ (.head _))).1⟩
  refine wpG_get_bind (X'.keeps F'.keep) hI2 (by k_is) (findObj_data (by rfl) (a := .ref 630) (g := .builtin "getset_descriptor.__get__") (by k_is) (by k_is) (by k_is)) (by k_is) ?_
  refine wpG_call (dictGet_G (X'.keeps F'.keep) hI2 (by k_is) (by k_is) (by k_is) (by k_is) (by k_is) rfl (N' _ (.tail _ (.head _))).1 (by k_is) ?_)
  dsimp only
  refine handed_on rfl ?_
  obtain ⟨F2, N2⟩ := slot_K (o := dictOf (DEg w t1 t2 t3 ga na aa) 3) (news' := (g, instObj 629 d) :: (d, dictS (DEg w t1 t2 t3 ga na aa) 3) :: rest) F' N' (.tail hgd (.head hrd)) rfl
  generalize h'.update d slotted = h2 at F2 N2 ⊢
  clear F' N' hI2 hI
  refine wpG_of ?_
  k_steps
  (try dsimp only)
  refine wpG_of ?_
  k_steps
  (try dsimp only)
  refine wpG_of ?_
  k_steps
  (try dsimp only)
  refine wpG_of ?_
  k_steps
  rename_i l1 l2 _ _ _ _ _ _ _ _ _ _ _ _ _ _ _ _ _ _ _ _ _ _ _ _ _ _ kF kN Tc kX
  exact h _ _ _ _ _ _ kF kN ⟨l2, l1⟩
end Mine
end
section
open PySem PySem.W PySem.Calls PyProof.Rows
set_option maxRecDepth 100000
namespace Mine
/-- what those who walk an iterator do between its turns: they write their own objects alone -/
structure EnvX (cw : List Addr) (gn : List Nat) (s s' : Shared) : Prop where
  heap : ∀ b o, b ∉ cw → s.heap.get? b = some o → s'.heap.get? b = some o
  gens : ∀ k ∈ gn, s'.gens[k]? = s.gens[k]?
  live : ∀ b ∈ cw, ∀ o, s.heap.get? b = some o → ∃ o', s'.heap.get? b = some o'
theorem EnvX.refl (cw : List Addr) (gn : List Nat) (s : Shared) : EnvX cw gn s s := ⟨fun _ _ _ e => e, fun _ _ => rfl, fun _ _ o e => ⟨o, e⟩⟩
theorem EnvX.trans {cw : List Addr} {gn : List Nat} {s s' s'' : Shared} (x : EnvX cw gn s s') (y : EnvX cw gn s' s'') : EnvX cw gn s s'' :=
  ⟨fun b o hb e => y.heap b o hb (x.heap b o hb e), fun k hk => (y.gens k hk).trans (x.gens k hk), fun b hb o e => let ⟨o', e'⟩ := x.live b hb o e; y.live b hb o' e'⟩
theorem live_upd {h h' : Heap} {S : Addr} {oS : Obj} {cw : List Addr} (hS : h'.get? S = some oS) (oth : ∀ b o, b ≠ S → h.get? b = some o → h'.get? b = some o) : ∀ b ∈ cw, ∀ o, h.get? b = some o → ∃ o', h'.get? b = some o' := fun b _ o e => by
  by_cases q : b = S
  · exact ⟨oS, by rw [q]; exact hS⟩
  · exact ⟨o, oth b o q e⟩
/-- a tuple -/
def TupO (o : Obj) : Prop := o.cls = .type "tuple" ∧ ∃ xs n, o.data = .seq xs n
/-- what an iterator's turn leaves alone: the elder objects but those that it writes, the walker's own, and all tuples -/
structure KeepX (B : Nat) (wr cw : List Addr) (gn : List Nat) (s s' : Shared) : Prop where
  heap : ∀ b o, s.heap.get? b = some o → ((b < B ∧ b ∉ wr) ∨ b ∈ cw ∨ TupO o) → s'.heap.get? b = some o
  gens : GIn gn s.gens s'.gens
  drawn : s'.drawn = s.drawn
  os : s'.os = s.os
theorem KeepX.refl (B : Nat) (wr cw : List Addr) (gn : List Nat) (s : Shared) : KeepX B wr cw gn s s := ⟨fun _ _ e _ => e, .refl _ _, rfl, rfl⟩
theorem KeepX.trans {B : Nat} {wr cw : List Addr} {gn : List Nat} {s s' s'' : Shared} (x : KeepX B wr cw gn s s') (y : KeepX B wr cw gn s' s'') : KeepX B wr cw gn s s'' :=
  ⟨fun b o e h => y.heap b o (x.heap b o e h) h, x.gens.trans y.gens, y.drawn.trans x.drawn, y.os.trans x.os⟩
theorem KeepX.noLimit {B : Nat} {wr cw : List Addr} {gn : List Nat} {s s' : Shared} (x : KeepX B wr cw gn s s') (hc : cStatics < B ∧ cStatics ∉ wr) (h : s.heap.NoLimit) : s'.heap.NoLimit :=
  let ⟨mc, hns, hnn⟩ := h; ⟨mc, hns.at' fun o e => x.heap _ o e (.inl hc), hnn⟩
/-- an iterator, as those see it who write cw alone -/
structure ItX (prog : Program) (w : World) (A : Around) (I : Addr) (B : Nat) (wr cw : List Addr) (gn : List Nat) (n : Nat) (P : Nat → Heap → Value → Heap → Prop) (St : Nat → Shared → Prop) : Prop where
  frame : ∀ i s s', St i s → EnvX cw gn s s' → St i s'
  item : ∀ i (s : Shared) (Q : Option Value → Shared → Prop) (E : Value → Shared → Prop), i < n → St i s → s.heap.NoLimit →
    (∀ v s', P i s.heap v s'.heap → St (i + 1) s' → KeepX B wr cw gn s s' → Q (some v) s') → wpAny (model prog w) A (pyNext (.ref I)) Q E s
  done : ∀ (s : Shared) (Q : Option Value → Shared → Prop) (E : Value → Shared → Prop), St n s → s.heap.NoLimit → (∀ s', KeepX B wr cw gn s s' → Q none s') → wpAny (model prog w) A (pyNext (.ref I)) Q E s
/-- what a generator hands out: its (n - 1 - m)-th item, and the right to go on -/
def genProtoX (B : Nat) (wr cw : List Addr) (gn : List Nat) (n : Nat) (P : Nat → Heap → Value → Heap → Prop) : Protocol := fun m s₀ v s kap =>
  P (n - 1 - m) s₀.heap v s.heap ∧ KeepX B wr cw gn s₀ s ∧ ∀ s'' : Shared, EnvX cw gn s s'' → s''.heap.NoLimit → kap (.send .none) s''
def genEndX (b : Bool) (B : Nat) (wr cw : List Addr) (gn : List Nat) : GenEnd := fun k s₀ r s₁ => r = genEnds b ∧ (k = 0 ∧ KeepX B wr cw gn s₀ s₁)
def GenAtX (prog : Program) (w : World) (A : Around) (b : Bool) (a : Addr) (g : Nat) (B : Nat) (wr cw : List Addr) (gn : List Nat) (n : Nat) (P : Nat → Heap → Value → Heap → Prop) (j : Nat) (s : Shared) : Prop :=
  s.heap.IsGen a g ∧ ∃ gs, s.gens[g]? = some gs ∧ ∀ s'' : Shared, EnvX cw gn s s'' → s''.heap.NoLimit → gs.Goes (model prog w) A.in1 (genEndX b B wr cw gn) (genProtoX B wr cw gn n P) (n - j) (.send .none) s''
theorem ItX.gen {prog : Program} {w : World} {A : Around} {b : Bool} {a : Addr} {g : Nat} {B : Nat} {wr cw : List Addr} {gn : List Nat} {n : Nat} {P : Nat → Heap → Value → Heap → Prop}
    (hh : A.handled = none) (hroom : A.depth < recursionLimit) (ha : a < B ∧ a ∉ wr) (hac : a ∉ cw) (hg : g ∉ gn) (hcs : cStatics < B ∧ cStatics ∉ wr) :
    ItX prog w A a B wr cw (g :: gn) n P (GenAtX prog w A b a g B wr cw gn n P) where
  frame := fun j s s' st hk => ⟨let ⟨o, nm, qn, ho, r⟩ := st.1; ⟨o, nm, qn, hk.heap a o hac ho, r⟩,
    let ⟨gs, hgs, hgo⟩ := st.2; ⟨gs, (hk.gens g (List.mem_cons_self ..)).trans hgs, fun s'' hal => hgo s'' (EnvX.trans ⟨hk.heap, fun k h => hk.gens k (List.mem_cons_of_mem _ h), hk.live⟩ hal)⟩⟩
  item := fun j s Q E hj st hl hQ => by
    obtain ⟨hga, gs, hgs, hgo⟩ := st
    obtain ⟨m, hm⟩ : ∃ m, n - j = m + 1 := ⟨n - j - 1, by omega⟩
    rw [hm] at hgo
    refine pyNext_gen_B (P := fun n s₀ s₁ => n = 0 ∧ KeepX B wr cw gn s₀ s₁) hh hl hroom hga hgs (hgo _ ⟨fun _ _ _ e => e, fun k hk => setGen_ne fun e => hg (e ▸ hk), fun _ _ o e => ⟨o, e⟩⟩ hl) (fun v s₁ gs' hb hv => ?_) (fun s₁ hp h' hk => ?_)
    · obtain ⟨hP, hmv, hkap⟩ := hv
      have hidx : n - 1 - (m + 1 - 1) = j := by omega
      rw [hidx] at hP
      have hgs1 : s₁.gens[g]? = some .running := (hmv.gens.but g hg).trans (setGen_self hgs)
      refine hQ v _ hP ⟨let ⟨o, nm, qn, ho, r⟩ := hga; ⟨o, nm, qn, hmv.heap a o ho (.inl ha), r⟩, gs', setGen_self hgs1, fun s'' hal => ?_⟩
        ⟨hmv.heap, ((GIn.set (List.mem_cons_self ..) rfl).trans (hmv.gens.mono fun _ h => List.mem_cons_of_mem _ h)).trans (GIn.set (List.mem_cons_self ..) hb), hmv.drawn, hmv.os⟩
      have e : n - (j + 1) = m := by omega
      rw [e]
      exact hkap s'' ⟨hal.heap, fun k hk => (hal.gens k hk).trans (setGen_ne fun e => hg (e ▸ hk)), hal.live⟩
    · exact absurd hp.1 (Nat.succ_ne_zero m)
  done := fun s Q E st hl hQ => by
    obtain ⟨hga, gs, hgs, hgo⟩ := st
    rw [Nat.sub_self] at hgo
    refine pyNext_gen_B (P := fun n s₀ s₁ => n = 0 ∧ KeepX B wr cw gn s₀ s₁) hh hl hroom hga hgs (hgo _ ⟨fun _ _ _ e => e, fun k hk => setGen_ne fun e => hg (e ▸ hk), fun _ _ o e => ⟨o, e⟩⟩ hl) (fun v s₁ gs' hb hv => ?_) (fun s₁ hp h' hk => ?_)
    · obtain ⟨_, hmv, hkap⟩ := hv
      exact False.elim (hkap s₁ (.refl _ _ _) (KeepX.noLimit (s := s.setGen g .running) hmv hcs hl))
    · obtain ⟨_, hmv⟩ := hp
      exact hQ _ ⟨fun c o e hc => hk c o (hmv.heap c o e hc), ((GIn.set (List.mem_cons_self ..) rfl).trans (hmv.gens.mono fun _ h => List.mem_cons_of_mem _ h)).trans (GIn.set (List.mem_cons_self ..) rfl), hmv.drawn, hmv.os⟩
/-- list.extend's loop over such an iterator -/
theorem codeAny_extend_ItX {prog : Program} {w : World} {A : Around} {R : Result → Shared → Prop} {I S : Addr} {B : Nat} {wr cw : List Addr} {gn : List Nat} {n : Nat} {P : Nat → Heap → Value → Heap → Prop} {St : Nat → Shared → Prop}
    (W : ItX prog w A.in1 I B wr cw gn n P St) (hn : n ≤ sizeLine) (hSc : S ∈ cw) (hcs : cStatics < B ∧ cStatics ∉ wr) (hcS : cStatics ≠ S) (res : Value) (J : Nat → List Value → Shared → Prop)
    (hJ : ∀ i acc s v s', i < n → J i acc s → P i s.heap v s'.heap → KeepX B wr cw gn s s' → J (i + 1) (acc ++ [v]) s') (hJS : ∀ i acc s h', J i acc s → (∀ b o, b ≠ S → s.heap.get? b = some o → h'.get? b = some o) → J i acc { s with heap := h' }) :
    ∀ (k i : Nat) (s : Shared) (acc : List Value) (c : Nat), n - i = k → i ≤ n → acc.length = i → St i s → s.heap.NoLimit → s.heap.get? S = some { cls := .type "list", dict := none, data := .seq acc.toArray c, slots := #[] } → J i acc s →
    (∀ s₁ s' acc' c', J n acc' s₁ → KeepX B wr cw gn s₁ s' → acc'.length = n → (∀ b o, b ≠ S → s.heap.get? b = some o → ((b < B ∧ b ∉ wr) ∨ b ∈ cw) → s'.heap.get? b = some o) → GIn gn s.gens s'.gens → s'.drawn = s.drawn → s'.os = s.os →
      s'.heap.get? S = some { cls := .type "list", dict := none, data := .seq acc'.toArray c', slots := #[] } → R (.ok (.ret res)) s') →
    codeAny (model prog w) A (.builtin "list.extend.loop" ⟨[.ref S, .ref I, res], []⟩) R s := by
  intro k
  induction k with
  | zero =>
    intro i s acc c hk hi hl hst hnl hS hj hR
    have hin : i = n := by omega
    subst hin
    refine codeAny_builtin PySem.F.entry_extend_loop ?_
    rw [Around.under_plainId PySem.F.plain_extend_loop _]
    show wpAny _ A.in1 (pyNext (.ref I) >>= _) _ _ s
    refine wpAny_bind (W.done s _ _ hst hnl fun s' hm => ?_)
    exact wpAny_pure (hR s s' acc c hj hm hl (fun b o _ e h => hm.heap b o e (h.elim .inl fun q => .inr (.inl q))) hm.gens hm.drawn hm.os (hm.heap S _ hS (.inr (.inl hSc))))
  | succ k ih =>
    intro i s acc c hk hi hl hst hnl hS hj hR
    have hlt : i < n := by omega
    refine codeAny_builtin PySem.F.entry_extend_loop ?_
    rw [Around.under_plainId PySem.F.plain_extend_loop _]
    show wpAny _ A.in1 (pyNext (.ref I) >>= _) _ _ s
    refine wpAny_bind (W.item i s _ _ hlt hst hnl fun v s' hP hst' hm => ?_)
    have hS' := hm.heap S _ hS (.inr (.inl hSc))
    show wpAny _ A.in1 (updateSeq S (·.push v) >>= _) _ _ _
    refine wpAny_bind ?_
    have hpush : acc.toArray.push v = (acc ++ [v]).toArray := by simp
    have hup := Heap.get?_update_self (Obj.mapSeq (·.push v)) hS' rfl
    have oth : ∀ b o, b ≠ S → s'.heap.get? b = some o → (s'.heap.update S (Obj.mapSeq (·.push v))).get? b = some o := fun b o hb e => (Heap.get?_update_other _ _ (Ne.symm hb)).trans e
    obtain ⟨c', hc'⟩ : ∃ c', (s'.heap.update S (Obj.mapSeq (·.push v))).get? S = some { cls := .type "list", dict := none, data := .seq (acc ++ [v]).toArray c', slots := #[] } := ⟨_, by rw [← hpush]; exact hup⟩
    have hnl' : (s'.heap.update S (Obj.mapSeq (·.push v))).NoLimit := by
      obtain ⟨mc, hns, hnn⟩ := hm.noLimit hcs hnl
      exact ⟨mc, hns.at' fun o e => oth _ o hcS e, hnn⟩
    refine wpAny_updateSeq hS' rfl (wpAny_pure ⟨plainId_quiet PySem.F.plain_extend_loop _, ih (i + 1) _ (acc ++ [v]) c' (by omega) hlt (by simp [hl]) (W.frame _ s' _ hst' ⟨fun b o hb e => oth b o (fun h => hb (h ▸ hSc)) e, fun _ _ => rfl, live_upd hc' oth⟩) hnl' hc' (hJS _ _ _ _ (hJ i acc s v s' hlt hj hP hm) oth) fun s₁ s'' acc' c'' h1 h2 h3 h4 h5 h6 h7 h8 => ?_⟩)
      (by rw [List.size_toArray]; omega) (by show (acc.toArray.push v).size ≤ sizeLine + 1; rw [Array.size_push, List.size_toArray]; omega)
    exact hR s₁ s'' acc' c'' h1 h2 h3 (fun b o hb e h => h4 b o hb (oth b o hb (hm.heap b o e (h.elim .inl fun q => .inr (.inl q)))) h) (hm.gens.trans h5) (h6.trans hm.drawn) (h7.trans hm.os) h8
end Mine
end
section
open PySem PySem.W PySem.Calls PyProof.Rows
set_option maxRecDepth 100000
namespace Mine
/-- a frame that waits for a loop's end -/
def FrOk (c : Code) (fr : Frame) : Prop := ∃ k l p, fr = .ret k none false l c p []
/-- when the loop under the frame has ended, K goes on -/
def FrEnds (M : Model) (A : Around) (R : GenEnd) (Y : Protocol) (c : Code) (fs : List Frame) (K : Sem Fin) (fr : Frame) : Prop :=
  ∀ (n : Nat) (s₀ s : Shared) (c' : Code), Seg M A R Y n s₀ c K fs s → Seg M A R Y n s₀ c' (leafOf (.ok .next)) (fr :: fs) s
section
variable {M : Model} {A : Around} {R : GenEnd} {Y : Protocol} {n : Nat} {s₀ : Shared} {c : Code} {fs : List Frame} {s : Shared} {env : Env} {K : Flow → Sem Fin} {H : Value → Sem Fin}
theorem seg_For {target iter : Expr} {body : List Stmt} {pos : Pos}
    (h : wpAny M (A.over c fs) (eval iter env) (fun x s₁ => wpAny M (A.over c fs) (pyIter x) (fun it s₂ => ∀ fr, FrOk c fr → FrEnds M A R Y c fs (K .next) fr →
      Seg M A R Y n s₀ (.forLoop target it body [] env) (M.den (.forLoop target it body [] env)) (fr :: fs) s₂) Never s₁) Never s)
    (hs : ∀ x, foldedSetIterable iter env x = pure x := by intro _; rfl) :
    Seg M A R Y n s₀ c ((exec (.For target iter body [] pos) env).wrap K H id id) fs s := by
  rw [exec_For]
  refine seg_bind_wrap (wpAny_standAt (seg_bind_wrap (wpAny_mono h (fun x s₁ h₁ => ?_) fun _ _ e => e.elim)))
  refine seg_bind_wrap (wpAny_of_eq (hs x) ?_)
  refine seg_bind_wrap (wpAny_standAt (seg_bind_wrap (wpAny_holding (wpAny_mono h₁ (fun it s₂ h₂ => ?_) fun _ _ e => e.elim))))
  refine seg_call fun p => h₂ _ ⟨_, _, _, rfl⟩ ?_
  intro n' s₀' s' c' hk
  exact seg_leaf (.ok .next) hk
end
section
variable {prog : Program} {w : World} {A : Around} {R : GenEnd} {Y : Protocol} {n : Nat} {s₀ : Shared} {fs : List Frame} {s : Shared} {env : Env}
/-- how a turn of a for goes on -/
def forK (target : Expr) (it : Value) (body : List Stmt) (env : Env) : Flow → Sem Fin
  | .next | .cont => .pure (.again (.forLoop target it body [] env))
  | .brk => .pure (.done .next)
  | .ret v => .pure (.done (.ret v))
def forH (env : Env) (e : Value) : Sem Fin := (do noteFrame e env; theTreesLotGoes e : Sem Unit).wrap (fun _ => .raise e) .raise id id
theorem seg_forLoop {target : Expr} {it : Value} {body : List Stmt}
    (h : wpAny (model prog w) (A.over (.forLoop target it body [] env) fs) (pyNext it) (fun r s₁ => match r with
      | none => ∀ c', Seg (model prog w) A R Y n s₀ c' (leafOf (.ok .next)) fs s₁
      | some v => wpAny (model prog w) (A.over (.forLoop target it body [] env) fs) (letOwnedTupleGo target it v) (fun _ s₂ =>
          wpAny (model prog w) (A.over (.forLoop target it body [] env) fs) (assign target env v) (fun _ s₃ =>
            Seg (model prog w) A R Y n s₀ (.forLoop target it body [] env) ((execs body env).wrap (forK target it body env) (forH env) id id) fs s₃) Never s₂) Never s₁) Never s) :
    Seg (model prog w) A R Y n s₀ (.forLoop target it body [] env) ((model prog w).den (.forLoop target it body [] env)) fs s := by
  show Seg _ A R Y n s₀ _ ((forTurn target it body [] env).onRaise (fun x => do noteFrame x env; theTreesLotGoes x)) fs s
  unfold forTurn
  rw [Sem.onRaise_eq_wrap]
  refine seg_bind_wrap (wpAny_standAt (seg_bind_wrap (wpAny_onRaise (wpAny_mono h (fun r s₁ h₁ => ?_) fun _ _ e => e.elim))))
  cases r with
  | none =>
    refine seg_again rfl ?_
    show Seg _ A R Y n s₀ (.block [] env) (((execs [] env).onRaise (fun x => do noteFrame x env; theTreesLotGoes x)) >>= fun f => pure (Fin.done f)) fs s₁
    exact h₁ _
  | some v =>
    refine seg_bind_wrap (wpAny_mono h₁ (fun _ s₂ h₂ => ?_) fun _ _ e => e.elim)
    refine seg_bind_wrap (wpAny_mono h₂ (fun _ s₃ h₃ => ?_) fun _ _ e => e.elim)
    rw [Sem.bind_eq_wrap', Sem.wrap_wrap]
    rw [Sem.wrap_congr (execs body env) _ _ (K' := forK target it body env) (H' := forH env) (fun f => by cases f <;> rfl)
      (fun e => by first | exact Sem.bind_eq_wrap _ _ | (show (do noteFrame e env; theTreesLotGoes e : Sem Unit).bind (fun _ => .raise e) = _; rw [Sem.bind_eq_wrap]; rfl))]
    exact h₃
theorem over_loop1 {A : Around} {env : Env} {body b : List Stmt} {t : Expr} {it : Value} {fr : Frame} (h : FrOk (.func body env) fr) : A.over (.forLoop t it b [] env) [fr] = A.deeper env := by
  obtain ⟨k, l, p, rfl⟩ := h
  rfl
theorem over_loop2 {A : Around} {env : Env} {body b b2 : List Stmt} {t t2 : Expr} {it it2 : Value} {fr fr2 : Frame} (h : FrOk (.func body env) fr) (h2 : FrOk (.forLoop t2 it2 b2 [] env) fr2) : A.over (.forLoop t it b [] env) [fr2, fr] = A.deeper env := by
  obtain ⟨k, l, p, rfl⟩ := h
  obtain ⟨k, l, p, rfl⟩ := h2
  rfl
theorem over_func {A : Around} {env : Env} {body : List Stmt} : A.over (.func body env) [] = A.deeper env := rfl
theorem split1 {c : Code} {fr : Frame} (h : FrOk c fr) : splitAtGen [fr] = none ∧ [fr].any Frame.guarded = false := by
  obtain ⟨k, l, p, rfl⟩ := h
  exact ⟨rfl, rfl⟩
theorem split2 {c c2 : Code} {fr fr2 : Frame} (h : FrOk c fr) (h2 : FrOk c2 fr2) : splitAtGen [fr2, fr] = none ∧ [fr2, fr].any Frame.guarded = false := by
  obtain ⟨k, l, p, rfl⟩ := h
  obtain ⟨k, l, p, rfl⟩ := h2
  exact ⟨rfl, rfl⟩
end
end Mine
end
section
open PySem PySem.W PySem.Calls PyProof.Rows
set_option maxRecDepth 100000
namespace Mine
section
variable {prog : Program} {w : World} {A : Around} {R : GenEnd} {Y : Protocol} {s₀ s : Shared} {fs : List Frame} {env : Env} {M : Model} {n : Nat} {c : Code} {K : Flow → Sem Fin} {H : Value → Sem Fin}
theorem seg_If {test : Expr} {body orelse : List Stmt} {pos : Pos}
    (h : wpAny M (A.over c fs) (isTrue test env (eval test env)) (fun b s' => if b = true then Seg M A R Y n s₀ c ((execs body env).wrap K H id id) fs s' else Seg M A R Y n s₀ c ((execs orelse env).wrap K H id id) fs s') Never s) :
    Seg M A R Y n s₀ c ((exec (.If test body orelse pos) env).wrap K H id id) fs s := by
  rw [show exec (.If test body orelse pos) env = (do standAt pos; if ← isTrue test env (eval test env) then execs body env else execs orelse env) from rfl]
  refine seg_bind_wrap (wpAny_standAt (seg_bind_wrap (wpAny_mono h (fun b s' hb => ?_) fun _ _ e => e.elim)))
  cases b with
  | true => exact hb
  | false => exact hb
theorem seg_for_ind {tgt : Expr} {it : Value} {body : List Stmt} (n : Nat) (rem : Nat → Nat) (Inv : Nat → Shared → Shared → Prop)
    (turn : ∀ i s₀ s, i < n → Inv i s₀ s → (∀ s₀' s', Inv (i + 1) s₀' s' → Seg (model prog w) A R Y (rem (i + 1)) s₀' (.forLoop tgt it body [] env) ((model prog w).den (.forLoop tgt it body [] env)) fs s') →
      Seg (model prog w) A R Y (rem i) s₀ (.forLoop tgt it body [] env) ((model prog w).den (.forLoop tgt it body [] env)) fs s)
    (fin : ∀ s₀ s, Inv n s₀ s → Seg (model prog w) A R Y (rem n) s₀ (.forLoop tgt it body [] env) ((model prog w).den (.forLoop tgt it body [] env)) fs s) :
    ∀ k i s₀ s, n - i = k → i ≤ n → Inv i s₀ s → Seg (model prog w) A R Y (rem i) s₀ (.forLoop tgt it body [] env) ((model prog w).den (.forLoop tgt it body [] env)) fs s := by
  intro k
  induction k with
  | zero =>
    intro i s₀ s hk hi hinv
    obtain rfl : i = n := by omega
    exact fin s₀ s hinv
  | succ k ih =>
    intro i s₀ s hk hi hinv
    exact turn i s₀ s (by omega) hinv fun s₀' s' h' => ih (i + 1) s₀' s' (by omega) (by omega) h'
end
section
variable {prog : Program} {w : World} {A A₀ : Around} {E : Value → Shared → Prop} {s : Shared} {K : Frag} {C L : Addr} {h₀ base : Heap} {m mg mb : Str → Option Value} {news : List (Addr × Obj)} {p : Program} {loose : List Str} {mean : ExcName → Option Value}
/-- a def with yield is called: the generator is made -/
theorem codeGen_def {env : Env} {outer : List Env} {R : Result → Shared → Prop} {name qual : Str} {params : Arguments} {body : List Stmt} {scope : Scope} {dV kV doc pm cdv ct oc : Value} {an od : Option Addr} {osl : Array (Option Value)} {f : Addr} {args : Args} {binds : List (Str × Value)}
    (B : Below A₀ base outer h₀) (F : Fr h₀ L s.heap m) (X₀ : K.In h₀) (N : News h₀ L s.heap news) (T : Top p loose mean mg mb h₀) (hA : A.frames = some (env :: outer)) (hf : env.frame = some L) (hke : env.scope.kind = .function)
    (ho : K.lookup f = some ⟨oc, od, .func (fnOf name qual params body scope dV kV doc pm an cdv ct), osl⟩) (hcd : codeIn K cdv qual = true) (hroom : A.depth < recursionLimit)
    (hbind : BindsTo s (fnOf name qual params body scope dV kV doc pm an cdv ct) args binds) (hloc : ∀ y ∈ binds, scope.names.lookup y.1 = some .local)
    (h : ∀ g L' h₁ tk, Fr g L' h₁ (fun y => binds.reverse.lookup y) → News g L' h₁ news → Below A base (env :: outer) g → K.In g → Top p loose mean mg mb g → (∀ b o, s.heap.get? b = some o → h₁.get? b = some o) → L' < h₁.objs.size → s.heap.get? L' = none → s.heap.objs.size ≤ L' → (∀ p ∈ news, g.get? p.1 = none) →
      R (.ok (.ret (.ref h₁.objs.size))) { s with heap := h₁.push { cls := .type "generator", data := .fields #[.int s.gens.size 0, .str name tk, .str qual (tk + 1)] }, gens := s.gens.push (.fresh (.func body (envOf qual scope L' f cdv))), toks := tk + 1 + 1 })
    (hco : scope.isCoroutine = false) (hgen : scope.isGenerator = true) (hk : scope.kind = .function) (hcell : ∀ x ∈ scope.names, x.2 ≠ .cell) : codeAny (model prog w) A (.call (.ref f) args) R s := by
  obtain ⟨FG, BG, st, lv⟩ := groundX (R := R) B F N hA hf hke
  have hl := T.nolimit.keeps F.keep
  refine codeAny_call_generator hroom ((X₀.keeps F.keep) _ _ ho) rfl hco hgen rfl (codeRec_of (X₀.keeps F.keep) hcd) (hbind _ _ _ _ ?_)
  refine wpAny_newFunctionEnv hcell hloc (fun h₁ hns hsb => ⟨hl.fresh _ hsb, ?_⟩) hk
  have hk₁ : ∀ b o, s.heap.get? b = some o → h₁.get? b = some o := fun b o e => hsb.extBut b o (Nat.ne_of_lt (Heap.lt_size e)) (Heap.get?_push_of_some _ e)
  have hLlt : s.heap.objs.size < h₁.objs.size := by rw [hsb.1, Heap.size_push]; exact Nat.lt_succ_self _
  have hnone : s.heap.get? s.heap.objs.size = none := by
    cases q : s.heap.get? s.heap.objs.size with
    | none => rfl
    | some o => exact absurd (Heap.lt_size q) (Nat.lt_irrefl _)
  exact h _ s.heap.objs.size h₁ _ ⟨hns, fun b o e => hk₁ b o (of_hideAll _ e), Nat.le_of_eq (hideAll_size _ _)⟩
    (fun p hp => ⟨hk₁ _ _ (N p hp).1, Nat.ne_of_lt (Heap.lt_size (N p hp).1), hideAll_none _ (List.mem_map_of_mem hp)⟩) BG (X₀.keeps st) (T.keeps st) hk₁ hLlt hnone (Nat.le_refl _) fun p hp => hideAll_none _ (List.mem_map_of_mem hp)
end
theorem fr_pick {g h : Heap} {L : Addr} {m : Str → Option Value} {x : Str} {v : Value} (F : Fr g L h m) (e : m x = some v) : ∃ M : Str → Option Value, Fr g L h (fun y => if y = x then some v else M y) := by
  refine ⟨m, ?_⟩
  have : (fun y => if y = x then some v else m y) = m := by
    funext y
    by_cases q : y = x
    · rw [if_pos q, q, e]
    · rw [if_neg q]
  rw [this]
  exact F
end Mine
end
section
open PySem PySem.W PySem.Calls PyProof.Rows
set_option maxRecDepth 100000
namespace Mine
/-- all objects of a heap that are neither the base's nor the frame's nor the generator's own -/
def exs (g h : Heap) (L : Addr) (own : List Addr) : List (Addr × Obj) :=
  (List.range h.objs.size).filterMap fun b => if b = L ∨ b ∈ own then none else match g.get? b with
    | some _ => none
    | none => (h.get? b).map fun o => (b, o)
theorem exs_mem {g h : Heap} {L : Addr} {own : List Addr} {p : Addr × Obj} (hp : p ∈ exs g h L own) : h.get? p.1 = some p.2 ∧ p.1 ≠ L ∧ g.get? p.1 = none ∧ p.1 ∉ own := by
  unfold exs at hp
  obtain ⟨b, _, hb⟩ := List.mem_filterMap.mp hp
  split at hb
  · cases hb
  · rename_i hc
    rw [not_or] at hc
    split at hb
    · cases hb
    · rename_i hg
      obtain ⟨o, ho, rfl⟩ := Option.map_eq_some_iff.mp hb
      exact ⟨ho, hc.1, hg, hc.2⟩
theorem exs_in {g h : Heap} {L : Addr} {own : List Addr} {b : Addr} {o : Obj} (ho : h.get? b = some o) (hL : b ≠ L) (hg : g.get? b = none) (hb : b ∉ own) : (b, o) ∈ exs g h L own := by
  unfold exs
  refine List.mem_filterMap.mpr ⟨b, List.mem_range.mpr (Heap.lt_size ho), ?_⟩
  rw [if_neg (by rw [not_or]; exact ⟨hL, hb⟩), hg, ho]
  rfl
theorem exs_news {g h : Heap} {L : Addr} {own : List Addr} : News g L h (exs g h L own) := fun _ hp => let ⟨a, b, c, _⟩ := exs_mem hp; ⟨a, b, c⟩
theorem exs_off {g h : Heap} {L D : Addr} {own : List Addr} (hD : D ∈ own) : ∀ p ∈ exs g h L own, p.1 ≠ D := fun _ hp e => (exs_mem hp).2.2.2 (e ▸ hD)
/-- all but the frame and the own objects has stayed -/
def KeepAll (L : Addr) (own : List Addr) (h h' : Heap) : Prop := ∀ b o, h.get? b = some o → b ≠ L → b ∉ own → h'.get? b = some o
theorem KeepAll.refl (L : Addr) (own : List Addr) (h : Heap) : KeepAll L own h h := fun _ _ e _ _ => e
theorem KeepAll.trans {L : Addr} {own : List Addr} {h h' h'' : Heap} (x : KeepAll L own h h') (y : KeepAll L own h' h'') : KeepAll L own h h'' := fun b o e a c => y b o (x b o e a c) a c
theorem KeepAll.grow {L : Addr} {own own' : List Addr} {h h' h'' : Heap} (x : KeepAll L own h h') (y : KeepAll L own' h' h'') (hn : ∀ b ∈ own', b ∈ own ∨ h.get? b = none) : KeepAll L own h h'' := fun b o e a c =>
  y b o (x b o e a c) a fun hm => (hn b hm).elim c fun q => by rw [q] at e; cases e
theorem KeepAll.sub {L : Addr} {own own' : List Addr} {h h' : Heap} (x : KeepAll L own h h') (hs : ∀ b ∈ own, b ∈ own') : KeepAll L own' h h' := fun b o e a c => x b o e a fun hm => c (hs b hm)
theorem exs_keep {g h h' : Heap} {L : Addr} {own : List Addr} {m m' : Str → Option Value} {led : List (Addr × Obj)} (F : Fr g L h m) (F' : Fr g L h' m') (N' : News g L h' led) (hs : ∀ p ∈ exs g h L own, p ∈ led) : KeepAll L own h h' := fun b o e a c => by
  cases hg : g.get? b with
  | none => exact (N' _ (hs _ (exs_in e a hg c))).1
  | some o' =>
    have h1 := F.keep b o' hg
    rw [e] at h1
    cases h1
    exact F'.keep b _ hg
theorem KeepAll.keepX {B : Nat} {L : Addr} {cw own : List Addr} {gn : List Nat} {s s' : Shared} (x : KeepAll L own s.heap s'.heap) (hg : s'.gens = s.gens) (hd : s'.drawn = s.drawn) (ho : s'.os = s.os) (hSL : L ∉ cw)
    (hown : ∀ b ∈ own, B ≤ b ∧ b ∉ cw ∧ ∀ o, s.heap.get? b = some o → ¬ TupO o) (hLt : ∀ o, s.heap.get? L = some o → ¬ TupO o) : KeepX B [L] cw gn s s' where
  heap := fun b o e hc => by
    have hbL : b ≠ L := by
      intro q
      subst q
      rcases hc with ⟨_, h⟩ | h | h
      · exact h (List.mem_singleton.mpr rfl)
      · exact hSL h
      · exact hLt o e h
    refine x b o e hbL fun hb => ?_
    obtain ⟨h1, h2, h3⟩ := hown b hb
    rcases hc with ⟨h, _⟩ | h | h
    · exact absurd h (Nat.not_lt.mpr h1)
    · exact h2 h
    · exact h3 o e h
  gens := by rw [hg]; exact .refl _ _
  drawn := hd
  os := ho
theorem KeepAll.keepX2 {B : Nat} {L : Addr} {wr cw own : List Addr} {gn : List Nat} {s s' : Shared} (x : KeepAll L own s.heap s'.heap) (hg : s'.gens = s.gens) (hd : s'.drawn = s.drawn) (ho : s'.os = s.os) (hSL : L ∉ cw)
    (hown : ∀ b ∈ own, (B ≤ b ∨ b ∈ wr) ∧ b ∉ cw ∧ ∀ o, s.heap.get? b = some o → ¬ TupO o) (hLt : ∀ o, s.heap.get? L = some o → ¬ TupO o) : KeepX B (L :: wr) cw gn s s' where
  heap := fun b o e hc => by
    have hbL : b ≠ L := by
      intro q
      subst q
      rcases hc with ⟨_, h⟩ | h | h
      · exact h (.head _)
      · exact hSL h
      · exact hLt o e h
    refine x b o e hbL fun hb => ?_
    obtain ⟨h1, h2, h3⟩ := hown b hb
    rcases hc with ⟨h, h'⟩ | h | h
    · rcases h1 with h1 | h1
      · exact absurd h (Nat.not_lt.mpr h1)
      · exact h' (.tail _ h1)
    · exact h2 h
    · exact h3 o e h
  gens := by rw [hg]; exact .refl _ _
  drawn := hd
  os := ho
theorem KeepAll.noLimit {L : Addr} {own : List Addr} {h h' : Heap} (x : KeepAll L own h h') (hL : cStatics ≠ L) (ho : cStatics ∉ own) (hl : h.NoLimit) : h'.NoLimit :=
  let ⟨mc, hns, hnn⟩ := hl; ⟨mc, hns.at' fun o e => x _ o e hL ho, hnn⟩
end Mine
end
section
open PySem PySem.W PySem.Calls PyProof.Rows
set_option maxRecDepth 100000
namespace Mine
theorem Inn.at {prog : Program} {w : World} {tl : List (Addr × Obj)} {ak : List (Int × Value)} {adj : List (Int × List Int)} (h : Inn (prog := prog) w tl ak adj) :
    ∀ i, i < adj.length → ∃ k x ox kvs, ak[i]? = some (k, Value.ref x) ∧ adj[i]? = some (k, kvs.map (·.1)) ∧ (x, ox) ∈ tl ∧ ox.IsDictOf (PySem.intKind prog w) kvs ∧ (x == sysModules) = false := by
  induction h with
  | nil => intro i hi; cases hi
  | @cons a o k kvs tl ak adj ho hs hr ih =>
    intro i hi
    cases i with
    | zero => exact ⟨k, a, o, kvs, rfl, rfl, .head _, ho, hs⟩
    | succ i =>
      obtain ⟨k', x, ox, kvs', h1, h2, h3, h4, h5⟩ := ih i (by simpa using hi)
      exact ⟨k', x, ox, kvs', by simpa using h1, by simpa using h2, .tail _ h3, h4, h5⟩
theorem Inn.len {prog : Program} {w : World} {tl : List (Addr × Obj)} {ak : List (Int × Value)} {adj : List (Int × List Int)} (h : Inn (prog := prog) w tl ak adj) : ak.length = adj.length := by
  have := congrArg List.length h.keys
  simpa using this
section
variable {prog : Program} {w : World} {A : Around} {E : Value → Shared → Prop} {s : Shared} {h₀ : Heap} {L d : Addr} {m : Str → Option Value} {news : List (Addr × Obj)} {o : Obj} {kvs : List (Int × Value)}
theorem ints_of {vs : List Value} (hl : vs.length = kvs.length) (hv : ∀ (j : Nat) (v : Value), vs[j]? = some v → ∃ k x, kvs[j]? = some (k, x) ∧ (PySem.intKind prog w).is k v = true) : IntsAre vs (kvs.map (·.1)) := by
  induction kvs generalizing vs with
  | nil =>
    cases vs with
    | nil => exact .nil
    | cons a r => simp at hl
  | cons p r ih =>
    cases vs with
    | nil => simp at hl
    | cons a vs =>
      obtain ⟨k, x, h1, h2⟩ := hv 0 a rfl
      simp only [List.getElem?_cons_zero, Option.some.injEq] at h1
      subst h1
      obtain ⟨t, rfl⟩ := Value.isInt_shape h2
      exact .cons k t (ih (by simpa using hl) fun j v h => by
        obtain ⟨k', x', h3, h4⟩ := hv (j + 1) v (by simpa using h)
        exact ⟨k', x', by simpa using h3, h4⟩)
/-- list of a dict whose keys are ints -/
theorem list_dictI {Q : Value → Shared → Prop} (hh : A.handled = none) (F : Fr h₀ L s.heap m) (N : News h₀ L s.heap news) (hp : (d, o) ∈ news) (hd : o.IsDictOf (PySem.intKind prog w) kvs) (lo : (d == sysModules) = false) (hn : kvs.length ≤ 16777216)
    (h : ∀ (B : Addr) c h' tk vs, Fr h₀ L h' m → News h₀ L h' ((B, W.listOf (List.toArray vs) c) :: news) → (∀ q ∈ news, q.1 < B) → IntsAre vs (kvs.map (·.1)) → Q (.ref B) { s with heap := h', toks := tk }) :
    wpAny (model prog w) A (call (.type "list") [.ref d]) Q E s := by
  obtain ⟨ep, hat⟩ := (kda_dict N hp hd).dictAt
  exact kdl_N (kdl_dict (knd := PySem.intKind prog w) (kvs := kvs) (ep := ep) lo) hh F N hat (kdl_size hn) fun B c h' tk vs F' N' l1 hl hv => h B c h' tk vs F' N' l1 (ints_of hl hv)
end
end Mine
end
section
namespace Mine
/-- the edges as EdgeView hands them out -/
def edgesFrom : List (Int × List Int) → List Int → List (Int × Int)
  | [], _ => []
  | (n, nbrs) :: r, seen => ((nbrs.filter fun x => decide (x ∉ seen)).map fun x => (n, x)) ++ edgesFrom r (seen ++ [n])
theorem edges_split : ∀ (a b : List (Int × List Int)) (seen : List Int), edgesFrom (a ++ b) seen = edgesFrom a seen ++ edgesFrom b (seen ++ a.map (·.1))
  | [], b, seen => by simp [edgesFrom]
  | (n, nbrs) :: r, b, seen => by
    simp only [List.cons_append, edgesFrom, edges_split r b, List.append_assoc, List.map_cons, List.nil_append]
theorem drop_at {α : Type} {l : List α} {i : Nat} {x : α} (h : l[i]? = some x) : l.drop i = x :: l.drop (i + 1) := by
  have hi : i < l.length := by
    rcases Nat.lt_or_ge i l.length with q | q
    · exact q
    · rw [List.getElem?_eq_none q] at h; cases h
  rw [List.drop_eq_getElem_cons hi]
  rw [List.getElem?_eq_getElem hi] at h
  rw [Option.some.inj h]
theorem take_at {α : Type} {l : List α} {i : Nat} {x : α} (h : l[i]? = some x) : l.take (i + 1) = l.take i ++ [x] := by
  rw [List.take_succ, h]; rfl
/-- what is left of the edges ahead of a node's turn -/
theorem rem_node {adj : List (Int × List Int)} {i : Nat} {k : Int} {ns : List Int} (h : adj[i]? = some (k, ns)) :
    (edgesFrom (adj.drop i) ((adj.take i).map (·.1))).length = (ns.filter fun x => decide (x ∉ (adj.take i).map (·.1))).length + (edgesFrom (adj.drop (i + 1)) ((adj.take (i + 1)).map (·.1))).length := by
  rw [drop_at h, take_at h]
  simp only [edgesFrom, List.length_append, List.length_map, List.map_append, List.map_cons, List.map_nil]
theorem rem_in {seen ns : List Int} {j : Nat} {x : Int} (h : ns[j]? = some x) (hx : x ∈ seen) : ((ns.drop j).filter fun y => decide (y ∉ seen)).length = ((ns.drop (j + 1)).filter fun y => decide (y ∉ seen)).length := by
  rw [drop_at h, List.filter_cons_of_neg (by simpa using hx)]
theorem rem_out {seen ns : List Int} {j : Nat} {x : Int} (h : ns[j]? = some x) (hx : x ∉ seen) : ((ns.drop j).filter fun y => decide (y ∉ seen)).length = ((ns.drop (j + 1)).filter fun y => decide (y ∉ seen)).length + 1 := by
  rw [drop_at h, List.filter_cons_of_pos (by simpa using hx), List.length_cons]
theorem edge_at {adj : List (Int × List Int)} {i j : Nat} {k x : Int} {ns : List Int} (h : adj[i]? = some (k, ns)) (hj : ns[j]? = some x) (hx : x ∉ (adj.take i).map (·.1)) :
    (edgesFrom adj []).getD ((edgesFrom adj []).length - 1 - (((ns.drop (j + 1)).filter fun y => decide (y ∉ (adj.take i).map (·.1))).length + (edgesFrom (adj.drop (i + 1)) ((adj.take (i + 1)).map (·.1))).length)) (0, 0) = (k, x) := by
  have e1 : edgesFrom adj [] = edgesFrom (adj.take i) [] ++ edgesFrom (adj.drop i) ((adj.take i).map (·.1)) := by
    have := edges_split (adj.take i) (adj.drop i) []
    rw [List.take_append_drop] at this
    simpa using this
  have e2 : edgesFrom (adj.drop i) ((adj.take i).map (·.1)) = ((ns.take j).filter fun y => decide (y ∉ (adj.take i).map (·.1))).map (fun y => (k, y)) ++ (k, x) :: (((ns.drop (j + 1)).filter fun y => decide (y ∉ (adj.take i).map (·.1))).map (fun y => (k, y)) ++ edgesFrom (adj.drop (i + 1)) ((adj.take (i + 1)).map (·.1))) := by
    rw [drop_at h, take_at h]
    simp only [edgesFrom, List.map_append, List.map_cons, List.map_nil]
    have e3 : ns = ns.take j ++ x :: ns.drop (j + 1) := by rw [← drop_at hj, List.take_append_drop]
    conv => lhs; rw [e3]
    rw [List.filter_append, List.filter_cons_of_pos (by simpa using hx), List.map_append, List.map_cons, List.append_assoc, List.cons_append]
  rw [e1, e2, ← List.append_assoc]
  generalize edgesFrom (adj.take i) [] ++ ((ns.take j).filter fun y => decide (y ∉ (adj.take i).map (·.1))).map (fun y => (k, y)) = P
  have hl : (((ns.drop (j + 1)).filter fun y => decide (y ∉ (adj.take i).map (·.1))).map (fun y => (k, y)) ++ edgesFrom (adj.drop (i + 1)) ((adj.take (i + 1)).map (·.1))).length = ((ns.drop (j + 1)).filter fun y => decide (y ∉ (adj.take i).map (·.1))).length + (edgesFrom (adj.drop (i + 1)) ((adj.take (i + 1)).map (·.1))).length := by
    rw [List.length_append, List.length_map]
  generalize ((ns.drop (j + 1)).filter fun y => decide (y ∉ (adj.take i).map (·.1))).map (fun y => (k, y)) ++ edgesFrom (adj.drop (i + 1)) ((adj.take (i + 1)).map (·.1)) = Q at hl ⊢
  rw [← hl]
  have : (P ++ (k, x) :: Q).length - 1 - Q.length = P.length := by rw [List.length_append, List.length_cons]; omega
  rw [this]
  simp
end Mine
end
section
open PySem PySem.W
namespace Mine
/-- the nodes 0 .. k - 1 -/
def rk (k : Nat) : List Int := (List.range k).map fun i : Nat => (i : Int)
theorem mem_rk {k : Nat} {x : Int} : x ∈ rk k ↔ 0 ≤ x ∧ x < k := by
  unfold rk
  rw [List.mem_map]
  constructor
  · rintro ⟨i, hi, rfl⟩
    have := List.mem_range.mp hi
    omega
  · rintro ⟨h1, h2⟩
    exact ⟨x.toNat, List.mem_range.mpr (by omega), by omega⟩
theorem rk_succ (k : Nat) : rk (k + 1) = rk k ++ [(k : Int)] := by simp [rk, List.range_succ]
theorem addE_keys {adj : List (Int × List Int)} {k : Nat} {u : Int} (h : adj.map (·.1) = rk k) (h0 : 0 ≤ u) (h1 : u < k) : (addE adj (u, (k : Int))).map (·.1) = rk (k + 1) := by
  have hu : u ∈ adj.map (·.1) := by rw [h]; exact mem_rk.mpr ⟨h0, h1⟩
  have hk : (k : Int) ∉ adj.map (·.1) := by rw [h]; intro q; have := mem_rk.mp q; omega
  simp only [addE, if_pos hu, if_neg hk, addNb_keys, addN_keys]
  rw [h, rk_succ]
def pathE (n : Nat) : List (Int × Int) := (List.range n).map fun i : Nat => ((i : Int), (i : Int) + 1)
theorem path_keys : ∀ n, 1 ≤ n → ((pathE n).foldl addE []).map (·.1) = rk (n + 1) := by
  intro n h
  induction n with
  | zero => omega
  | succ n ih =>
    by_cases hn : n = 0
    · subst hn; rfl
    · have e : pathE (n + 1) = pathE n ++ [((n : Int), (n : Int) + 1)] := by simp [pathE, List.range_succ]
      rw [e, List.foldl_append]
      have := addE_keys (u := (n : Int)) (ih (by omega)) (by omega) (by omega)
      simpa using this
theorem path_new (i : Nat) : (i : Int) + 1 ∉ ((pathE i).foldl addE []).map (·.1) := by
  cases i with
  | zero => exact List.not_mem_nil
  | succ i =>
    rw [path_keys (i + 1) (by omega), mem_rk]
    omega
def starE (src last : Int) (q : Nat) : List (Int × Int) := (List.range q).map fun i : Nat => (src, last + (i : Int))
theorem star_keys {adj : List (Int × List Int)} {k : Nat} {src : Int} (h : adj.map (·.1) = rk k) (h0 : 0 ≤ src) (h1 : src < k) : ∀ q, ((starE src k q).foldl addE adj).map (·.1) = rk (k + q) := by
  intro q
  induction q with
  | zero => simpa [starE] using h
  | succ q ih =>
    have e : starE src k (q + 1) = starE src k q ++ [(src, (k : Int) + (q : Int))] := by simp [starE, List.range_succ]
    rw [e, List.foldl_append]
    have := addE_keys (u := src) ih h0 (by omega)
    simpa [Nat.add_assoc] using this
/-- the nodes' number after the turns i of the second part -/
def lastAt (asc : List Int) (i : Nat) : Int := (asc.length : Int) + 2 + ((asc.take i).map (· - 2)).sum
def starsAt (asc : List Int) : Nat → List (Int × Int)
  | 0 => []
  | i + 1 => starsAt asc i ++ starE (i + 1) (lastAt asc i) (asc.getD i 0 - 2).toNat
def adjAt (asc : List Int) (i : Nat) : List (Int × List Int) := (pathE (asc.length + 1) ++ starsAt asc i).foldl addE []
def treeAdj (asc : List Int) : List (Int × List Int) := adjAt asc asc.length
theorem lastAt_succ {asc : List Int} {i : Nat} (h : i < asc.length) : lastAt asc (i + 1) = lastAt asc i + (asc.getD i 0 - 2) := by
  have e : asc.getD i 0 = asc[i] := by simp [h]
  unfold lastAt
  rw [List.take_add_one, List.getElem?_eq_getElem h, Option.toList_some, List.map_append, List.sum_append, e]
  simp; omega
theorem lastAt_le {asc : List Int} (h2 : ∀ x ∈ asc, 2 ≤ x) {i : Nat} (h : i < asc.length) : lastAt asc i ≤ lastAt asc (i + 1) := by
  rw [lastAt_succ h]
  have e : asc.getD i 0 = asc[i] := by simp [h]
  have := h2 _ (List.getElem_mem h)
  rw [e]; omega
theorem lastAt_mono {asc : List Int} (h2 : ∀ x ∈ asc, 2 ≤ x) : ∀ k i, i + k ≤ asc.length → lastAt asc i ≤ lastAt asc (i + k) := by
  intro k
  induction k with
  | zero => intro i _; exact Int.le_refl _
  | succ k ih => intro i h; exact Int.le_trans (ih i (by omega)) (lastAt_le h2 (by omega))
theorem adjAt_succ (asc : List Int) (i : Nat) : adjAt asc (i + 1) = (starE (i + 1) (lastAt asc i) (asc.getD i 0 - 2).toNat).foldl addE (adjAt asc i) := by
  unfold adjAt
  rw [starsAt, ← List.append_assoc, List.foldl_append]
theorem adjAt_keys {asc : List Int} (h2 : ∀ x ∈ asc, 2 ≤ x) : ∀ i, i ≤ asc.length → ((adjAt asc i).map (·.1) = rk (lastAt asc i).toNat ∧ (asc.length : Int) + 2 ≤ lastAt asc i) := by
  intro i
  induction i with
  | zero =>
    intro _
    refine ⟨?_, by simp [lastAt]⟩
    have := path_keys (asc.length + 1) (by omega)
    unfold adjAt
    rw [starsAt, List.append_nil, this]
    have e0 : lastAt asc 0 = ((asc.length + 1 + 1 : Nat) : Int) := by simp only [lastAt, List.take_zero, List.map_nil, List.sum_nil]; omega
    rw [e0, Int.toNat_natCast]
  | succ i ih =>
    intro hi
    obtain ⟨h1, h3⟩ := ih (by omega)
    have hle := lastAt_le h2 (i := i) (by omega)
    refine ⟨?_, by omega⟩
    rw [adjAt_succ]
    have hL : ((lastAt asc i).toNat : Int) = lastAt asc i := by omega
    have := star_keys (src := (i : Int) + 1) h1 (by omega) (by omega) (asc.getD i 0 - 2).toNat
    rw [hL] at this
    rw [this]
    congr 1
    rw [lastAt_succ (by omega)] at hle ⊢
    omega
theorem sum_filter_split : ∀ ns : List Int, (∀ x ∈ ns, 1 ≤ x) → ((ns.filter (fun a => decide (1 < a))).map (· - 2)).sum + (ns.filter (fun a => decide (1 < a))).length = ns.sum - ns.length
  | [], _ => rfl
  | x :: r, h => by
    have ih := sum_filter_split r fun y hy => h y (.tail _ hy)
    have hx := h x (.head _)
    by_cases q : 1 < x
    · rw [List.filter_cons_of_pos (by simpa using q)]
      simp only [List.map_cons, List.sum_cons, List.length_cons]
      push_cast
      omega
    · rw [List.filter_cons_of_neg (by simpa using q)]
      simp only [List.sum_cons, List.length_cons]
      push_cast
      omega
theorem perm_sum {a b : List Int} (h : a.Perm b) : a.sum = b.sum := by
  induction h with
  | nil => rfl
  | cons x _ ih => simp [ih]
  | swap x y l => simp; omega
  | trans _ _ h1 h2 => exact h1.trans h2
/-- the last of the nodes' numbers is the row's length -/
theorem lastAt_end {asc ns : List Int} (hp : asc.Perm (ns.filter fun a => decide (1 < a))) (h1 : ∀ x ∈ ns, 1 ≤ x) (hs : ns.sum = 2 * ns.length - 2) : lastAt asc asc.length = ns.length := by
  have e := sum_filter_split ns h1
  unfold lastAt
  rw [List.take_length, perm_sum (hp.map _), hp.length_eq]
  omega
end Mine
end
section
open PySem PySem.W PySem.Calls PyProof.Rows
namespace Mine
local macro_rules | `(tactic| walk_at "ZZ0") => `(tactic| skip)
local macro_rules | `(tactic| walk_at "ZZ1") => `(tactic| skip)
local macro_rules | `(tactic| walk_at "ZZ2") => `(tactic| skip)
local macro_rules | `(tactic| walk_at "ZZ3") => `(tactic| skip)
local macro_rules | `(tactic| walk_at "ZZ4") => `(tactic| skip)
local macro_rules | `(tactic| walk_at "ZZ5") => `(tactic| skip)
local macro_rules | `(tactic| walk_at "ZZ6") => `(tactic| skip)
local macro_rules | `(tactic| walk_at "ZZ7") => `(tactic| skip)
local macro_rules | `(tactic| walk_at "ZZ8") => `(tactic| skip)
local macro_rules | `(tactic| walk_at "ZZ9") => `(tactic| skip)
local macro_rules | `(tactic| walk_at "ZZ10") => `(tactic| skip)
local macro_rules | `(tactic| walk_at "ZZ11") => `(tactic| skip)
local macro_rules | `(tactic| walk_at "ZZ12") => `(tactic| skip)
local macro_rules | `(tactic| walk_at "ZZ13") => `(tactic| skip)
local macro_rules | `(tactic| walk_at "ZZ14") => `(tactic| skip)
local macro_rules | `(tactic| walk_at "ZZ15") => `(tactic| skip)
local macro_rules | `(tactic| walk_at "ZZ16") => `(tactic| skip)
local macro_rules | `(tactic| walk_at "ZZ17") => `(tactic| skip)
local macro_rules | `(tactic| walk_at "ZZ18") => `(tactic| skip)
local macro_rules | `(tactic| walk_at "ZZ19") => `(tactic| skip)
local macro_rules | `(tactic| walk_at "ZZ20") => `(tactic| skip)
local macro_rules | `(tactic| walk_at "ZZ21") => `(tactic| skip)
local macro_rules | `(tactic| walk_at "ZZ22") => `(tactic| skip)
local macro_rules | `(tactic| walk_at "ZZ23") => `(tactic| skip)
local macro_rules | `(tactic| walk_at "ZZ24") => `(tactic| skip)
local macro_rules | `(tactic| walk_at "ZZ25") => `(tactic| skip)
local macro_rules | `(tactic| walk_at "ZZ26") => `(tactic| skip)
local macro_rules | `(tactic| walk_at "ZZ27") => `(tactic| skip)
local macro_rules | `(tactic| walk_at "ZZ28") => `(tactic| skip)
local macro_rules | `(tactic| walk_at "ZZ29") => `(tactic| skip)
theorem rs8 {M : Model} {A : Around} {E : Value → Shared → Prop} {s : Shared} {env : Env} {pos : Pos} {Q : Flow → Shared → Prop} (h : wpAny M A (exec (.Pass pos) env) Q E s) : wpAny M A (exec (.Pass pos) env) Q E s := by
  w_top off
  first | (walk1; fail) | exact h
end Mine
end
section
open PySem PySem.W PySem.Calls PyProof.Rows
set_option maxRecDepth 100000
set_option maxHeartbeats 2000000
set_option rowWalk.seconds 0
namespace Mine
local macro_rules | `(tactic| k_all) => `(tactic| assumption)
local macro_rules | `(tactic| walk_at "call builtin:len") => `(tactic| (k_here; (with_reducible show wpAny _ _ (call (Value.builtin "len") [Value.ref _]) _ _ _); k_dflt (refine kda_len (knd := PySem.intKind _ _) (by k_asm) (by k_mem) (by k_asm) (by k_asm) (by omega) ?_)))
local macro_rules | `(tactic| walk_at "getAttr ref") => `(tactic| (k_here; k_dflt (refine' getS_own ?k1 ?k2 ?k3 ?k4 ?k5 ?k6 ?k7 ?k8 ?k9 ?_; (case k1 => k_asm); (case k2 => k_asm); (case k3 => k_inst); (case k4 => k_is); (case k5 => k_is); (case k6 => k_is); (case k7 => k_is); (case k8 => k_get); (case k9 => k_handed); k_whole)))
local macro_rules | `(tactic| walk_at "getMethod ref") => `(tactic| (k_here; k_dflt (first | (refine' methS_inst ?k1 ?k2 ?k3 ?k4 ?k5 ?k6 ?k7 ?_; (case k1 => k_asm); (case k2 => k_asm); (case k3 => k_inst); (case k4 => k_is); (case k5 => k_is); (case k6 => k_is); (case k7 => k_get); k_whole) | (refine' dictS_getm (News.get (by k_asm) (by k_mem)) ?_; k_whole))))
local macro_rules | `(tactic| walk_at "call builtin:dict.get") => `(tactic| (k_here; (with_reducible show wpAny _ _ (call (Value.builtin "dict.get") [Value.ref _, Value.str _ _, _]) _ _ _); k_dflt (refine' dictS_get2 (News.get (by k_asm) (by k_mem)) ?k ?y ?l ?_; (case k => assumption); (case y => assumption); (case l => k_get); k_whole)))
local macro_rules | `(tactic| walk_at "setItem ref str") => `(tactic| (k_here; k_dflt (refine' dictS_set ?F ?N ?U ?k ?l ?z ?_; (case F => k_asm); (case N => k_asm); (case U => k_upd); (case k => assumption); (case l => k_get); (case z => simp); k_whole); intro h' F' N'))
local macro_rules | `(tactic| walk_at "call builtin:hasattr") => `(tactic| (k_here; k_dflt (refine' hasattr_K ?F ?X ?N ?I rfl ?g ?hh ?ha ?c ?l ?cd ?fo ?n ?z ?mo ?_; (case F => k_asm); (case X => k_asm); (case N => k_asm); (case I => k_inst); (case g => k_is); (case hh => k_is); (case ha => k_is); (case c => decide +kernel); (case l => (refine lookS ?_; k_get)); (case cd => k_is); (case fo => decide +kernel); (case n => decide +kernel); (case z => decide +kernel); (case mo => k_is); k_whole); intro h' tk' F' N'))
/-- a new tuple of two ints -/
def PairP (B : Nat) (ed : Nat → Int × Int) : Nat → Heap → Value → Heap → Prop := fun i h v h' =>
  ∃ t tu tv, v = .ref t ∧ h'.get? t = some (⟨.type "tuple", none, .seq #[.int (ed i).1 tu, .int (ed i).2 tv] 0, #[]⟩ : Obj) ∧ B ≤ t
local macro_rules | `(tactic| walk_at "call type:list") => `(tactic| (k_here; (with_reducible show wpAny _ _ (call (Value.type "list") [Value.ref _]) _ _ _); k_dflt (refine' list_dictI rfl ?F ?N ?p ?d ?l ?n ?_; (case F => k_asm); (case N => k_asm); (case p => k_mem); (case d => assumption); (case l => assumption); (case n => omega); k_whole); intro B' c' h' tk' vs' F' N' l1 i'; (try k_lt l1)))
local macro_rules | `(tactic| walk_at "compareOp NotIn int ref") => `(tactic| (k_here; k_dflt (refine' kdg_notin (knd := PySem.intKind _ _) ?N ?p ?d ?l (intKind_is _ _ _ _) _ ?b ?_; (case N => k_asm); (case p => k_mem); (case d => assumption); (case l => assumption); (case b => assumption); k_whole)))
local macro_rules | `(tactic| walk_at "setItem ref int") => `(tactic| (k_here; k_dflt (refine' kda_set (knd := PySem.intKind _ _) ?F ?N ?U ?d (intKind_is _ _ _ _) ?z ?_; (case F => k_asm); (case N => k_asm); (case U => k_updF); (case d => assumption); (case z => assumption)); intro h' o' F' N' hd'; (try dsimp only at N')))
theorem dict_notTup {w : World} {o : Obj} {kvs : List (Int × Value)} (h : o.IsDictOf (PySem.intKind PP w) kvs) : ¬ TupO o := by
  rintro ⟨_, xs, n, hx⟩
  obtain ⟨es, ep, _, hd, _⟩ := h
  rw [hd] at hx
  cases hx
theorem fr_notTup {g h : Heap} {L : Addr} {m : Str → Option Value} (F : Fr g L h m) : ∀ o, h.get? L = some o → ¬ TupO o := by
  obtain ⟨oL, es, ep, hL, hd, _⟩ := F.ns
  rintro o ho ⟨_, xs, n, hx⟩
  rw [hL] at ho
  cases ho
  rw [hd] at hx
  cases hx
def EInv (w : World) (gb : Heap) (L' : Addr) (cw : List Addr) (D I1 aa : Addr) (ep Bn : Nat) (Led : List (Addr × Obj)) (adj : List (Int × List Int)) (n i : Nat) (s₀ s : Shared) : Prop :=
  ∃ (M : Str → Option Value) (kvs : List (Int × Value)) (ok ov : Value) (oD : Obj),
    Fr gb L' s.heap (fun y => if y = Str.ofString "seen" then some (.ref D) else M y) ∧ IsItemIter s.heap I1 aa i n ep ok ov ∧ s.heap.get? D = some oD ∧ oD.IsDictOf (PySem.intKind PP w) kvs ∧ kvs.map (·.1) = (adj.take i).map (·.1) ∧
    (∀ p ∈ Led, s.heap.get? p.1 = some p.2) ∧ KeepX Bn [L'] cw [] s₀ s ∧ s.heap.NoLimit ∧ Bn ≤ s.heap.objs.size
def EInv2 (gb : Heap) (L' : Addr) (cw : List Addr) (D I1 aa I2 LL : Addr) (ep Bn : Nat) (Led : List (Addr × Obj)) (oD : Obj) (vs : Array Value) (nI i : Nat) (k : Int) (tkk : Tok) (ov : Value) (j : Nat) (s₀ s : Shared) : Prop :=
  ∃ (M : Str → Option Value),
    Fr gb L' s.heap (fun y => if y = Str.ofString "n" then some (.int k tkk) else if y = Str.ofString "seen" then some (.ref D) else M y) ∧ IsItemIter s.heap I1 aa i nI ep (.int k tkk) ov ∧ s.heap.get? D = some oD ∧
    s.heap.IsListIter I2 LL j ∧ s.heap.IsList LL vs ∧ (∀ p ∈ Led, s.heap.get? p.1 = some p.2) ∧ KeepX Bn [L'] cw [] s₀ s ∧ s.heap.NoLimit ∧ Bn ≤ s.heap.objs.size
theorem fr_pick2 {g h : Heap} {L : Addr} {m : Str → Option Value} {x x2 : Str} {v v2 : Value} (F : Fr g L h m) (e : m x = some v) (e2 : m x2 = some v2) : ∃ M : Str → Option Value, Fr g L h (fun y => if y = x then some v else if y = x2 then some v2 else M y) := by
  refine ⟨m, ?_⟩
  have : (fun y => if y = x then some v else if y = x2 then some v2 else m y) = m := by
    funext y
    by_cases q : y = x
    · rw [if_pos q, q, e]
    · rw [if_neg q]
      by_cases q2 : y = x2
      · rw [if_pos q2, q2, e2]
      · rw [if_neg q2]
  rw [this]
  exact F
theorem EInv2.env {gb : Heap} {L' : Addr} {cw : List Addr} {D I1 aa I2 LL : Addr} {ep Bn : Nat} {Led : List (Addr × Obj)} {oD : Obj} {vs : Array Value} {nI i : Nat} {k : Int} {tkk : Tok} {ov : Value} {j : Nat} {s₀ s s'' : Shared}
    (h : EInv2 gb L' cw D I1 aa I2 LL ep Bn Led oD vs nI i k tkk ov j s₀ s) (e : EnvX cw [] s s'') (hnl : s''.heap.NoLimit) (hL : L' ∉ cw) (hg : ∀ c ∈ cw, gb.get? c = none) (hS : ∀ c ∈ cw, c < Bn) (h1 : Bn ≤ I1) (h2 : Bn ≤ D) (h3 : Bn ≤ I2) (h4 : Bn ≤ LL) (h5 : ∀ p ∈ Led, p.1 ∉ cw) :
    EInv2 gb L' cw D I1 aa I2 LL ep Bn Led oD vs nI i k tkk ov j s'' s'' := by
  obtain ⟨M, F, hit, hD, ⟨oi, hi1, hi2⟩, ⟨ol, hl1, hl2⟩, hled, _, _, _⟩ := h
  have k : ∀ b o, b ∉ cw → s.heap.get? b = some o → s''.heap.get? b = some o := fun b o hb q => e.heap b o hb q
  have ge : ∀ b, Bn ≤ b → b ∉ cw := fun b hb hm => absurd (hS b hm) (Nat.not_lt.mpr hb)
  refine ⟨M, ⟨F.ns.at' fun o q => k _ _ hL q, fun b o q => k b o (fun c => by rw [hg b c] at q; cases q) (F.keep b o q), F.above⟩, k _ _ (ge _ h1) hit, k _ _ (ge _ h2) hD, ⟨oi, k _ _ (ge _ h3) hi1, hi2⟩, ⟨ol, k _ _ (ge _ h4) hl1, hl2⟩, fun p hp => k _ _ (h5 p hp) (hled p hp), .refl _ _ _ _ _, hnl, ?_⟩
  exact Nat.le_trans h1 (Nat.le_of_lt (Heap.lt_size (k _ _ (ge _ h1) hit)))
theorem iter_edges {w : World} {mean : ExcName → Option Value} {mg mb : Str → Option Value} {gd : Option (List Code)} {cn : Str} {nms : List (Str × NameKind)} {sg sc : Bool} {mo : List (Str × Const)} {a : Addr} {ccd : Value} {cl : List (Str × Addr)} {outer : List Env} {A₀ : Around} {base h₀ : Heap} {L : Addr} {m : Str → Option Value} {rest : List (Addr × Obj)} {s : Shared}
    {Q E : Value → Shared → Prop} {aa ev dv : Addr} {cw : List Addr} {ta : Tok} {oa : Obj} {aks : List (Int × Value)} {adj : List (Int × List Int)} {tl : List (Addr × Obj)}
    (B : Below A₀ base outer h₀) (F : Fr h₀ L s.heap m) (X : (hd.heap_39 w.params).In h₀) (N : News h₀ L s.heap ((ev, instObj 252 dv) :: (dv, dictOf (DEd w ta aa) 1) :: (aa, oa) :: (tl ++ rest))) (T : Top TP LS mean mg mb h₀)
    (hoa : oa.IsDictOf (PySem.intKind PP w) aks) (laa : (aa == sysModules) = false) (hinn : Inn (prog := PP) w tl aks adj) (hlen : adj.length ≤ 11) (hcl : Closed adj) (hnd : (adj.map (·.1)).Nodup)
    (hcw : ∀ c ∈ cw, ∃ o, (c, o) ∈ rest) (hSn : ∀ p ∈ (ev, instObj 252 dv) :: (dv, dictOf (DEd w ta aa) 1) :: (aa, oa) :: tl, p.1 ∉ cw)
    (h : ∀ h' tk I c Lg, Fr h₀ L h' m → (∀ b o, s.heap.get? b = some o → h'.get? b = some o) → s.heap.get? I = none → s.heap.get? Lg = none → Lg < I → s.heap.objs.size ≤ Lg → h'.objs.size = I + 1 →
      GenAtX PP w (ktrTop 302 9 gd cn { kind := .function, names := nms, isGenerator := sg, isCoroutine := sc, more := mo } L a ccd cl outer) false I s.gens.size (I + 1) [Lg] cw [] (edgesFrom adj []).length (PairP (I + 1) fun j => (edgesFrom adj []).getD j (0, 0)) 0 { s with heap := h', gens := s.gens.push (.fresh c), toks := tk } →
      Q (.ref I) { s with heap := h', gens := s.gens.push (.fresh c), toks := tk }) :
    wpAny (model PP w) (ktrTop 302 9 gd cn { kind := .function, names := nms, isGenerator := sg, isCoroutine := sc, more := mo } L a ccd cl outer) (call (.ref 242) [.ref ev]) Q E s := by
  refine of_mk ?_
  k_fill
  intro _
  refine wpAny_call ?_
  refine' codeGen_def ?k1 ?k2 ?k3 ?k4 ?k5 ?kA ?kF ?kK ?k6 ?k7 ?k8 ?k9 ?kB ?_ ?c2 ?c3 ?c4 ?c5; (case kA => exact rfl); (case kF => exact rfl); (case kK => exact rfl); (case k1 => k_asm); (case k2 => k_asm); (case k3 => k_asm); (case k4 => k_asm); (case k5 => k_asm); (case k6 => k_is); (case k7 => k_is); (case k8 => k_room); (case k9 => first | exact BindsTo.of_eq rfl | exact binds_K (by k_in) rfl (by k_is) rfl rfl rfl | fail "k_enter: no rule for these arguments"); (case c5 => decide); (case kB => exact locs rfl); (case c2 => exact rfl); (case c3 => exact rfl); (case c4 => exact rfl)
  intro gb L' h₁ tk F₁ N₁ B₁ X₁ T₁ hk₁ hL1 hLn hLs hng
  have hIlt : ∀ b o, s.heap.get? b = some o → (h₁.push { cls := .type "generator", data := .fields #[.int s.gens.size 0, .str (Str.ofString "__iter__") tk, .str (Str.ofString "EdgeView.__iter__") (tk + 1)] }).get? b = some o := fun b o e => Heap.get?_push_of_some _ (hk₁ b o e)
  refine h _ _ h₁.objs.size _ L' (F.kept hIlt) hIlt ?_ hLn hL1 hLs (Heap.size_push _ _) ⟨⟨_, _, _, Heap.get?_push_size _ rfl, rfl, rfl, rfl⟩, _, Array.getElem?_push_size .., ?_⟩
  · cases q : s.heap.get? h₁.objs.size with
    | none => rfl
    | some o => exact absurd (Heap.lt_size (hk₁ _ _ q)) (Nat.lt_irrefl _)
  -- what the generator does, whenever it is first woken
  intro s2 henv hnl
  refine ⟨rfl, seg_func ?_⟩
  have hcwN : ∀ c ∈ cw, ∃ o, (c, o) ∈ (ev, instObj 252 dv) :: (dv, dictOf (DEd w ta aa) 1) :: (aa, oa) :: (tl ++ rest) := fun c hc => let ⟨o, ho⟩ := hcw c hc; ⟨o, by simp only [List.mem_cons, List.mem_append]; exact .inr (.inr (.inr (.inr ho)))⟩
  have hSL : L' ∉ cw := by
    intro hm
    obtain ⟨o, ho⟩ := hcwN _ hm
    have := (N _ ho).1
    rw [hLn] at this
    cases this
  have hgS : ∀ c ∈ cw, gb.get? c = none := fun c hc => let ⟨o, ho⟩ := hcwN c hc; hng _ ho
  have F2 : Fr gb L' s2.heap _ := ⟨F₁.ns.at' fun o e => henv.heap _ _ hSL (Heap.get?_push_of_some _ e), fun b o e => henv.heap _ _ (fun q => by rw [hgS b q] at e; cases e) (Heap.get?_push_of_some _ (F₁.keep b o e)), F₁.above⟩
  have N2 : ∀ own, News gb L' s2.heap ((ev, instObj 252 dv) :: (dv, dictOf (DEd w ta aa) 1) :: (aa, oa) :: (tl ++ exs gb s2.heap L' own)) := fun own p hp => by
    have old : ∀ q ∈ (ev, instObj 252 dv) :: (dv, dictOf (DEd w ta aa) 1) :: (aa, oa) :: tl, s2.heap.get? q.1 = some q.2 ∧ q.1 ≠ L' ∧ gb.get? q.1 = none := fun p hp => by
      have hn := N₁ p (by
        simp only [List.mem_cons, List.mem_append] at hp ⊢
        rcases hp with h | h | h | h <;> simp only [h, true_or, or_true])
      exact ⟨henv.heap _ _ (hSn p hp) (Heap.get?_push_of_some _ hn.1), hn.2⟩
    simp only [List.mem_cons, List.mem_append] at hp old
    rcases hp with h | h | h | h | h
    · exact old p (by simp only [h, true_or, or_true])
    · exact old p (by simp only [h, true_or, or_true])
    · exact old p (by simp only [h, true_or, or_true])
    · exact old p (by simp only [h, true_or, or_true])
    · exact exs_news p h
  have hI2 : ∃ o, s2.heap.get? h₁.objs.size = some o := ⟨_, henv.heap _ _ (fun hm => by obtain ⟨o, ho⟩ := hcwN _ hm; exact absurd (Heap.lt_size (hk₁ _ _ (N _ ho).1)) (Nat.lt_irrefl _)) (Heap.get?_push_size _ rfl)⟩
  have hIg : gb.get? h₁.objs.size = none := by
    cases q : gb.get? h₁.objs.size with
    | none => rfl
    | some o => exact absurd (Heap.lt_size q) (Nat.not_lt.mpr (Nat.le_of_lt (Nat.lt_of_le_of_lt F₁.above hL1)))
  have B2 : Below (ktrTop 302 10 gd cn { kind := .function, names := nms, isGenerator := sg, isCoroutine := sc, more := mo } L a ccd cl outer) base (envX cn { kind := .function, names := nms, isGenerator := sg, isCoroutine := sc, more := mo } L a ccd cl :: outer) gb := ⟨rfl, B₁.stays, B₁.frames⟩
  have hkeep0 : KeepX (h₁.objs.size + 1) [L'] cw [] s2 s2 := .refl _ _ _ _ _
  generalize hBn : h₁.objs.size + 1 = Bn at hkeep0 ⊢
  have hSB : ∀ c ∈ cw, c < Bn := by
    intro c hc
    rw [← hBn]
    obtain ⟨o, ho⟩ := hcwN c hc
    have hS := Heap.lt_size (N _ ho).1
    exact Nat.lt_succ_of_lt (Nat.lt_of_lt_of_le hS (Nat.le_of_lt (Nat.lt_of_le_of_lt hLs hL1)))
  have hge : ∀ b, Bn ≤ b → b ∉ cw := fun b hb hm => absurd (hSB b hm) (Nat.not_lt.mpr hb)
  clear h F B X N T F₁ N₁ B₁ hIlt hk₁
  have Na := N2 []
  obtain ⟨oI, hoI⟩ := hI2
  have hIex : (h₁.objs.size, oI) ∈ exs gb s2.heap L' [] := exs_in hoI (Nat.ne_of_gt hL1) hIg List.not_mem_nil
  have hLt2 := fr_notTup F2
  have kp2 : ∀ (h' : Heap) (m' : Str → Option Value) (led : List (Addr × Obj)), Fr gb L' h' m' → News gb L' h' led → (∀ p ∈ exs gb s2.heap L' [], p ∈ led) → KeepAll L' [] s2.heap h' := fun _ _ _ F' N' hs => exs_keep F2 F' N' hs
  refine seg_execs_cons (seg_wrap ?_)
  show wpAny _ ((ktrTop 302 10 gd cn { kind := .function, names := nms, isGenerator := sg, isCoroutine := sc, more := mo } L a ccd cl outer).deeper _) _ _ _ _
  k_steps
  rename_i D hD0 oD loD _ _ hiD _ l1 hD F3 N3

  have kD : KeepAll L' [] s2.heap hD := kp2 _ _ _ F3 N3 fun p hp => by simp only [List.mem_cons, List.mem_append]; simp only [hp, true_or, or_true]
  (try dsimp only)
  refine seg_execs_cons (seg_For ?_)
  show wpAny _ ((ktrTop 302 10 gd cn { kind := .function, names := nms, isGenerator := sg, isCoroutine := sc, more := mo } L a ccd cl outer).deeper _) _ _ _ _
  k_steps
  rename_i tkx _ _ _ gq Lq hq1 FGq Fq1 Nq1 Bq Xq Tq V hV Fq Nq l2 kF kN Tc kX
  clear FGq Fq1 Nq1 Bq Xq Tq Fq Nq
  have kV : KeepAll L' [] s2.heap hV := kp2 _ _ _ kF kN fun p hp => by simp only [List.mem_cons, List.mem_append]; simp only [hp, true_or, or_true]
  obtain ⟨ep, hat⟩ := KdkAt.of hoa
  have kF' : Fr gb L' hV _ := kF
  have kN' : News gb L' hV _ := kN
  refine wpAny_pyIter_items (knd := PySem.intKind PP w) (d := aa) (kvs := aks) (ep := ep) ⟨_, (kN' (V, _) (.head _)).1, rfl, rfl⟩ (hat.dictAt (kN' (aa, oa) (by simp)).1) ?_
  intro fr hfr hends
  have hVI : V < hV.objs.size := Heap.lt_size (kN' (V, _) (.head _)).1
  have hDV : D < V := l2.1
  have hID : h₁.objs.size < D := allLt_mem (l := tl ++ exs gb s2.heap L' []) l1.2.2.2 _ (List.mem_append_right _ hIex)
  have hBD : Bn ≤ D := by rw [← hBn]; exact hID
  have hBI : Bn ≤ hV.objs.size := Nat.le_trans hBD (Nat.le_of_lt (Nat.lt_trans hDV hVI))
  have hLB : L' < Bn := by rw [← hBn]; exact Nat.lt_succ_of_lt hL1
  have hcsL : cStatics ≠ L' := by
    obtain ⟨mc, ⟨oS, _, _, hS0, _⟩, _⟩ := Top.nolimit T₁
    intro e
    exact absurd (Heap.lt_size hS0) (Nat.not_lt.mpr (e ▸ kF'.above))
  have hLed : ∀ p ∈ (ev, instObj 252 dv) :: (dv, dictOf (DEd w ta aa) 1) :: (aa, oa) :: tl, p.1 ≠ L' ∧ gb.get? p.1 = none := fun p hp => by
    refine (kN' p ?_).2
    simp only [List.mem_cons, List.mem_append] at hp ⊢
    rcases hp with h | h | h | h <;> simp only [h, true_or, or_true]
  have kS := kN' (D, oD) (by simp)
  clear N2 kF kN N3 kD
  refine seg_for_ind (n := aks.length) (rem := fun i => (edgesFrom (adj.drop i) ((adj.take i).map (·.1))).length) (EInv w gb L' cw D hV.objs.size aa ep Bn ((ev, instObj 252 dv) :: (dv, dictOf (DEd w ta aa) 1) :: (aa, oa) :: tl) adj aks.length) ?turn ?fin aks.length 0 s2 _ rfl (Nat.zero_le _) ?inv0
  case inv0 =>
    refine ⟨_, [], .none, .none, oD, kF'.push _, Heap.get?_push_size _ rfl, Heap.get?_push_of_some _ kS.1, hiD, rfl, fun p hp => Heap.get?_push_of_some _ (kN' p ?_).1, ?_, ?_, ?_⟩
    · simp only [List.mem_cons, List.mem_append] at hp ⊢
      rcases hp with h | h | h | h <;> simp only [h, true_or, or_true]
    · exact KeepAll.keepX (own := []) (fun b o e a c => Heap.get?_push_of_some _ (kV b o e a c)) rfl rfl rfl hSL (fun b hb => nomatch hb) hLt2
    · exact KeepAll.noLimit (own := []) (fun b o e a c => Heap.get?_push_of_some _ (kV b o e a c)) hcsL List.not_mem_nil hnl
    · exact Nat.le_trans hBI (by show hV.objs.size ≤ (hV.push _).objs.size; rw [Heap.size_push]; exact Nat.le_succ _)
  have hLedlt : ∀ p ∈ (ev, instObj 252 dv) :: (dv, dictOf (DEd w ta aa) 1) :: (aa, oa) :: tl, p.1 < D := fun p hp => by
    simp only [List.mem_cons] at hp
    rcases hp with h | h | h | h
    · rw [h]; exact l1.1
    · rw [h]; exact l1.2.1
    · rw [h]; exact l1.2.2.1
    · exact allLt_mem l1.2.2.2 p (List.mem_append_left _ h)
  have hcsT : ∀ x, Bn ≤ x → cStatics ≠ x := by
    obtain ⟨mc, ⟨oS, _, _, hS0, _⟩, _⟩ := Top.nolimit T₁
    intro x hx e
    exact absurd (Heap.lt_size hS0) (Nat.not_lt.mpr (Nat.le_trans kF'.above (Nat.le_trans (Nat.le_of_lt hLB) (e ▸ hx))))
  have hcsO : cStatics ∉ [hV.objs.size, D] := by
    simp only [List.mem_cons, List.not_mem_nil, or_false, not_or]
    exact ⟨hcsT _ hBI, hcsT _ hBD⟩
  have hDI : D ≠ hV.objs.size := Nat.ne_of_lt (Nat.lt_trans hDV hVI)
  have hLI : L' ≠ hV.objs.size := Nat.ne_of_lt (Nat.lt_of_lt_of_le hLB hBI)
  have hLD : L' ≠ D := Nat.ne_of_lt (Nat.lt_of_lt_of_le hLB hBD)
  have hgtop : ∀ x, Bn ≤ x → gb.get? x = none := fun x hx => by
    cases q : gb.get? x with
    | none => rfl
    | some o => exact absurd (Heap.lt_size q) (Nat.not_lt.mpr (Nat.le_of_lt (Nat.lt_of_lt_of_le (Nat.lt_of_le_of_lt kF'.above hLB) hx)))
  clear kF'
  case fin =>
    intro s₀ s hinv
    obtain ⟨M, kvs, ok, ov, oD', F, hit, hDo, hkv, hks, hled, hkx, hnl', hsz⟩ := hinv
    have e0 : adj.drop aks.length = [] := List.drop_of_length_le (by rw [hinn.len]; exact Nat.le_refl _)
    rw [e0]
    refine seg_forLoop ?_
    rw [over_loop1 hfr]
    refine wpAny_pyNext_items_end (kvs := aks) rfl hit (hat.dictAt (hled (aa, oa) (by simp))) (by simp) fun h' hext => ?_
    dsimp only
    intro c'
    refine hends _ _ _ _ ?_
    refine seg_end (.ok (.ret .none)) ⟨rfl, rfl, ?_⟩
    refine hkx.trans (KeepAll.keepX (own := [hV.objs.size]) (fun b o e _ c => hext b o (by simpa using c) e) rfl rfl rfl hSL ?_ (fr_notTup F))
    intro b hb
    rw [List.mem_singleton.mp hb]
    refine ⟨hBI, ?_, fun o ho => ?_⟩
    · exact hge _ hBI
    · rw [hit] at ho
      cases ho
      rintro ⟨h, _⟩
      exact absurd (show Value.type "dict_itemiterator" = Value.type "tuple" from h) (by decide)
  case turn =>
    intro i s₀ s hi hinv cont
    obtain ⟨M, kvs, ok, ov, oD', F, hit, hDo, hkv, hks, hled, hkx, hnl', hsz⟩ := hinv
    obtain ⟨k, x, ox, kvi, ha1, ha2, ha3, ha4, ha5⟩ := hinn.at i (hinn.len ▸ hi)
    refine seg_forLoop ?_
    rw [over_loop1 hfr]
    refine wpAny_pyNext_items_item (knd := PySem.intKind PP w) hit (hat.dictAt (hled (aa, oa) (by simp))) ha1 fun key h5 hkey hout htup hsz5 hk5 => ?_
    obtain ⟨tkk, rfl⟩ := Value.isInt_shape hkey
    dsimp only
    refine wpAny_letOwnedTupleGo_items hout fun h6 hit6 hs6 => ?_
    have hTI : s.heap.objs.size ≠ hV.objs.size := fun e => absurd (Heap.lt_size hit) (by rw [← e]; exact Nat.lt_irrefl _)
    have k6 : KeepAll L' [hV.objs.size] s.heap h6 := fun b o e _ c => (hs6.2 b (by simpa using c)).trans (hk5 b o (by simpa using c) e)
    have F6 : Fr gb L' h6 _ := ⟨F.ns.at' fun o e => (hs6.2 _ hLI).trans (hk5 _ o hLI e), fun b o e => (hs6.2 b (fun q => by rw [q, hgtop _ hBI] at e; cases e)).trans (hk5 b o (fun q => by rw [q, hgtop _ hBI] at e; cases e) (F.keep b o e)), F.above⟩
    have hT6 : h6.get? s.heap.objs.size = _ := (hs6.2 _ hTI).trans htup
    have hTL : s.heap.objs.size ≠ L' := fun e => by obtain ⟨oL, _, _, hL0, _⟩ := F.ns; exact absurd (Heap.lt_size hL0) (by rw [← e]; exact Nat.lt_irrefl _)
    have N6 : News gb L' h6 ((s.heap.objs.size, { cls := .type "tuple", data := .seq #[.int k tkk, .ref x] }) :: (hV.objs.size, { cls := .type "dict_itemiterator", dict := none, data := .fields #[.none, .bool false, .ref aa, .int (i + 1 : Nat) 0, .int aks.length 0, .int ep 0, .int k tkk, .ref x], slots := #[] }) :: (D, oD') :: (x, ox) :: (ev, instObj 252 dv) :: (dv, dictOf (DEd w ta aa) 1) :: (aa, oa) :: (tl ++ exs gb h6 L' [hV.objs.size, D])) := fun p hp => by
      have old : ∀ q ∈ (ev, instObj 252 dv) :: (dv, dictOf (DEd w ta aa) 1) :: (aa, oa) :: tl, h6.get? q.1 = some q.2 ∧ q.1 ≠ L' ∧ gb.get? q.1 = none := fun q hq => by
        refine ⟨k6 _ _ (hled q hq) (hLed q hq).1 ?_, hLed q hq⟩
        simp only [List.mem_singleton]
        exact Nat.ne_of_lt (Nat.lt_trans (hLedlt q hq) (Nat.lt_trans hDV hVI))
      simp only [List.mem_cons, List.mem_append] at hp old
      rcases hp with h | h | h | h | h | h | h | h | h
      · rw [h]; exact ⟨hT6, hTL, hgtop _ hsz⟩
      · rw [h]; exact ⟨hit6, Ne.symm hLI, hgtop _ hBI⟩
      · rw [h]; exact ⟨k6 _ _ hDo (Ne.symm hLD) (by simpa using hDI), Ne.symm hLD, hgtop _ hBD⟩
      · rw [h]; exact old (x, ox) (by simp only [ha3, true_or, or_true])
      · exact old p (by simp only [h, true_or, or_true])
      · exact old p (by simp only [h, true_or, or_true])
      · exact old p (by simp only [h, true_or, or_true])
      · exact old p (by simp only [h, true_or, or_true])
      · exact exs_news p h
    have kp6 : ∀ (h' : Heap) (m' : Str → Option Value) (led : List (Addr × Obj)), Fr gb L' h' m' → News gb L' h' led → (∀ p ∈ exs gb h6 L' [hV.objs.size, D], p ∈ led) → KeepAll L' [hV.objs.size, D] h6 h' := fun _ _ _ F' N' hs => exs_keep F6 F' N' hs
    have hLts := fr_notTup F
    clear hs6 hk5 htup hout
    show wpAny _ ((ktrTop 302 10 gd cn { kind := .function, names := nms, isGenerator := sg, isCoroutine := sc, more := mo } L a ccd cl outer).deeper _) _ _ _ _
    clear F
    k_steps
    rename_i h7 F7 N7
    have k7 : KeepAll L' [hV.objs.size, D] h6 h7 := kp6 _ _ _ F7 N7 fun p hp => by simp only [List.mem_cons, List.mem_append]; simp only [hp, true_or, or_true]
    have hkl : kvi.length ≤ 16777216 := by
      have h1 := nbr_len hcl (List.mem_of_getElem? ha2) (dict_keys_nodup ha4)
      rw [List.length_map] at h1
      omega
    refine seg_execs_cons (seg_For ?_)
    rw [over_loop1 hfr]
    show wpAny _ ((ktrTop 302 10 gd cn { kind := .function, names := nms, isGenerator := sg, isCoroutine := sc, more := mo } L a ccd cl outer).deeper _) _ _ _ _
    k_steps
    rename_i LL cL h8 tk8 vs8 F8 N8 i8 l8
    have k8 : KeepAll L' [hV.objs.size, D] h6 h8 := kp6 _ _ _ F8 N8 fun p hp => by simp only [List.mem_cons, List.mem_append]; simp only [hp, true_or, or_true]
    have hLL : h8.IsList LL vs8.toArray := ⟨_, (N8 (LL, _) (.head _)).1, rfl, cL, rfl⟩
    refine wpAny_pyIter_list hLL ?_
    intro fr2 hfr2 hends2
    have hDLL : D < LL := l8.2.2.1
    have hLLI : LL < h8.objs.size := by obtain ⟨o, ho, _⟩ := hLL; exact Heap.lt_size ho
    have hBI2 : Bn ≤ h8.objs.size := Nat.le_trans hBD (Nat.le_of_lt (Nat.lt_trans hDLL hLLI))
    have hvl : vs8.length = kvi.length := by have := i8.length; rw [List.length_map] at this; exact this
    have hit8 := (N8 _ (.tail _ (.tail _ (.head _)))).1
    have hD8 := (N8 (D, oD') (by simp)).1
    have hled8 : ∀ p ∈ (ev, instObj 252 dv) :: (dv, dictOf (DEd w ta aa) 1) :: (aa, oa) :: tl, h8.get? p.1 = some p.2 := fun p hp => (N8 p (by
      simp only [List.mem_cons, List.mem_append] at hp ⊢
      rcases hp with h | h | h | h <;> simp only [h, true_or, or_true])).1
    obtain ⟨M8, F8'⟩ := fr_pick2 (x := Str.ofString "n") (x2 := Str.ofString "seen") (v := .int k tkk) (v2 := .ref D) F8 (by kernel_rfl) (by kernel_rfl)
    (try clear F7); (try clear N7); clear F8 N8
    have hit8' := hit8
    have hrem := rem_node ha2
    rw [hrem]
    have hns : ∀ j, j < kvi.length → ∃ y t, vs8.toArray[j]? = some (Value.int y t) ∧ (kvi.map (·.1))[j]? = some y := fun j hj => by
      have h1 : j < (kvi.map (·.1)).length := by rw [List.length_map]; exact hj
      obtain ⟨t, ht⟩ := i8.get j ((kvi.map (·.1))[j]) (List.getElem?_eq_getElem h1)
      exact ⟨_, t, by rw [List.getElem?_toArray]; exact ht, List.getElem?_eq_getElem h1⟩
    have kall8 : KeepAll L' [hV.objs.size, D] s.heap (h8.push { cls := .type "list_iterator", data := .fields #[.ref LL, .int 0 0] }) := fun b o e a c => Heap.get?_push_of_some _ (k8 b o (k6 b o e a (by simp only [List.mem_cons, List.not_mem_nil, or_false, not_or] at c ⊢; exact c.1)) a c)
    have hkx8 : KeepX Bn [L'] cw [] s₀ { s with heap := h8.push { cls := .type "list_iterator", data := .fields #[.ref LL, .int 0 0] }, toks := tk8 } := by
      refine hkx.trans (KeepAll.keepX (own := [hV.objs.size, D]) kall8 rfl rfl rfl hSL (fun b hb => ?_) hLts)
      simp only [List.mem_cons, List.not_mem_nil, or_false] at hb
      rcases hb with rfl | rfl
      · refine ⟨hBI, hge _ hBI, fun o ho => ?_⟩
        rw [hit] at ho
        cases ho
        rintro ⟨h, _⟩
        exact absurd (show Value.type "dict_itemiterator" = Value.type "tuple" from h) (by decide)
      · refine ⟨hBD, hge _ hBD, fun o ho => ?_⟩
        rw [hDo] at ho
        cases ho
        exact dict_notTup hkv
    refine seg_for_ind (n := kvi.length) (rem := fun j => (((kvi.map (·.1)).drop j).filter fun y => decide (y ∉ (adj.take i).map (·.1))).length + (edgesFrom (adj.drop (i + 1)) ((adj.take (i + 1)).map (·.1))).length)
      (EInv2 gb L' cw D hV.objs.size aa h8.objs.size LL ep Bn ((ev, instObj 252 dv) :: (dv, dictOf (DEd w ta aa) 1) :: (aa, oa) :: tl) oD' vs8.toArray aks.length (i + 1) k tkk (.ref x)) ?turn2 ?fin2 kvi.length 0 s₀ _ rfl (Nat.zero_le _) ?inv2
    case inv2 =>
      refine ⟨M8, F8'.push _, Heap.get?_push_of_some _ hit8, Heap.get?_push_of_some _ hD8, ⟨_, Heap.get?_push_size _ rfl, rfl, rfl⟩, ⟨_, Heap.get?_push_of_some _ hLL.choose_spec.1, hLL.choose_spec.2⟩, fun p hp => Heap.get?_push_of_some _ (hled8 p hp), hkx8, ?_, ?_⟩
      · exact kall8.noLimit hcsL hcsO hnl'
      · exact Nat.le_trans hBI2 (by show h8.objs.size ≤ (h8.push _).objs.size; rw [Heap.size_push]; exact Nat.le_succ _)
    case fin2 =>
      clear hkx8 kall8 k8 k7 k6 kp6 hit8 hD8 hled8 F8' hit hDo hled hkx hnl' hsz hLts
      intro s₁ s3 hinv2
      obtain ⟨M3, F3, hit3, hD3, hli3, hl3, hled3, hkx3, hnl3, hsz3⟩ := hinv2
      have e0 : ((kvi.map (·.1)).drop kvi.length) = [] := List.drop_of_length_le (by rw [List.length_map]; exact Nat.le_refl _)
      rw [e0, List.filter_nil, List.length_nil, Nat.zero_add]
      refine seg_forLoop ?_
      rw [over_loop2 hfr hfr2]
      refine wpAny_pyNext_list_end rfl hli3 hl3 (by rw [List.getElem?_toArray]; exact List.getElem?_eq_none (by omega)) fun h4 hext => ?_
      dsimp only
      intro c'
      refine hends2 _ _ _ _ ?_
      have hI2g := hgtop _ hBI2
      have F4 : Fr gb L' h4 _ := ⟨F3.ns.at' fun o e => hext _ o (Nat.ne_of_lt (Nat.lt_of_lt_of_le hLB hBI2)) e, fun b o e => hext b o (fun q => by rw [q, hI2g] at e; cases e) (F3.keep b o e), F3.above⟩
      have hIN : hV.objs.size ≠ h8.objs.size := Nat.ne_of_lt (Heap.lt_size hit8')
      have hDN : D ≠ h8.objs.size := Nat.ne_of_lt (Nat.lt_trans hDLL hLLI)
      have hD4 := hext _ _ hDN hD3
      have hit4 := hext _ _ hIN hit3
      have k4 : KeepAll L' [h8.objs.size] s3.heap h4 := fun b o e _ c => hext b o (by simpa using c) e
      have hled4 : ∀ p ∈ (ev, instObj 252 dv) :: (dv, dictOf (DEd w ta aa) 1) :: (aa, oa) :: tl, h4.get? p.1 = some p.2 := fun p hp => hext _ _ (Nat.ne_of_lt (Nat.lt_trans (hLedlt p hp) (Nat.lt_trans hDLL hLLI))) (hled3 p hp)
      have N4 : News gb L' h4 ((D, oD') :: (ev, instObj 252 dv) :: (dv, dictOf (DEd w ta aa) 1) :: (aa, oa) :: (tl ++ exs gb h4 L' [D])) := fun p hp => by
        have old : ∀ q ∈ (ev, instObj 252 dv) :: (dv, dictOf (DEd w ta aa) 1) :: (aa, oa) :: tl, h4.get? q.1 = some q.2 ∧ q.1 ≠ L' ∧ gb.get? q.1 = none := fun q hq => ⟨hled4 q hq, hLed q hq⟩
        simp only [List.mem_cons, List.mem_append] at hp old
        rcases hp with h | h | h | h | h | h
        · rw [h]; exact ⟨hD4, Ne.symm hLD, hgtop _ hBD⟩
        · exact old p (by simp only [h, true_or, or_true])
        · exact old p (by simp only [h, true_or, or_true])
        · exact old p (by simp only [h, true_or, or_true])
        · exact old p (by simp only [h, true_or, or_true])
        · exact exs_news p h
      have kp4 : ∀ (h' : Heap) (m' : Str → Option Value) (led : List (Addr × Obj)), Fr gb L' h' m' → News gb L' h' led → (∀ p ∈ exs gb h4 L' [D], p ∈ led) → KeepAll L' [D] h4 h' := fun _ _ _ F' N' hs => exs_keep F4 F' N' hs
      have hLt3 := fr_notTup F3
      have hoff : ∀ p ∈ tl ++ exs gb h4 L' [D], p.1 ≠ D := fun p hp => by
        rcases List.mem_append.mp hp with h | h
        · exact Nat.ne_of_lt (hLedlt p (.tail _ (.tail _ (.tail _ h))))
        · exact exs_off (List.mem_singleton.mpr rfl) p h
      have hz : kvs.length ≤ sizeLine := by
        have := congrArg List.length hks
        rw [List.length_map, List.length_map, List.length_take] at this
        rw [sizeLine_eq]
        omega
      clear F3
      refine seg_execs_cons (seg_wrap ?_)
      rw [over_loop1 hfr]
      show wpAny _ ((ktrTop 302 10 gd cn { kind := .function, names := nms, isGenerator := sg, isCoroutine := sc, more := mo } L a ccd cl outer).deeper _) _ _ _ _
      k_steps
      rename_i h5 o5 F5 N5 hd5
      have k5 : KeepAll L' [D] h4 h5 := kp4 _ _ _ F5 N5 fun p hp => by simp only [List.mem_cons, List.mem_append]; simp only [hp, true_or, or_true]
      have N5' : News gb L' h5 _ := N5
      have hit5 := k5 _ _ hit4 (Ne.symm hLI) (by simpa using Ne.symm hDI)
      have kall5 : KeepAll L' [h8.objs.size, D] s3.heap h5 := fun b o e a c => by
        simp only [List.mem_cons, List.not_mem_nil, or_false, not_or] at c
        exact k5 b o (k4 b o e a (by simpa using c.1)) a (by simpa using c.2)
      obtain ⟨M5, F5'⟩ := fr_pick (x := Str.ofString "seen") (v := .ref D) F5 (by kernel_rfl)
      have hkn : k ∉ kvs.map (·.1) := by
        rw [hks]
        intro hm
        have h1 := take_at ha2
        have h2 : (((adj.take (i + 1)).map (·.1))).Nodup := hnd.sublist ((List.take_sublist _ _).map _)
        rw [h1, List.map_append, List.nodup_append] at h2
        exact h2.2.2 k hm k (by simp) rfl
      refine seg_again rfl (cont s₁ _ ⟨M5, _, .int k tkk, .ref x, o5, F5', hit5, (N5' (D, o5) (.head _)).1, hd5, ?_, fun p hp => (N5' p ?_).1, ?_, ?_, Nat.le_trans hBI (Nat.le_of_lt (Heap.lt_size hit5))⟩)
      · rw [st_new _ _ ((va_none_iff _ _).mpr hkn), List.map_append, hks, take_at ha2, List.map_append]
        rfl
      · simp only [List.mem_cons, List.mem_append] at hp ⊢
        rcases hp with h | h | h | h <;> simp only [h, true_or, or_true]
      · refine hkx3.trans (KeepAll.keepX kall5 rfl rfl rfl hSL (fun b hb => ?_) hLt3)
        simp only [List.mem_cons, List.not_mem_nil, or_false] at hb
        rcases hb with rfl | rfl
        · refine ⟨hBI2, hge _ hBI2, fun o ho => ?_⟩
          obtain ⟨o', ho', hc', _⟩ := hli3
          rw [ho'] at ho
          cases ho
          rintro ⟨h, _⟩
          rw [hc'] at h
          exact absurd h (by decide)
        · refine ⟨hBD, hge _ hBD, fun o ho => ?_⟩
          rw [hD3] at ho
          cases ho
          exact dict_notTup hkv
      · refine kall5.noLimit hcsL ?_ hnl3
        simp only [List.mem_cons, List.not_mem_nil, or_false, not_or]
        exact ⟨hcsT _ hBI2, hcsT _ hBD⟩
    case turn2 =>
      clear hkx8 kall8 k8 k7 k6 kp6 hit8 hD8 hled8 F8' hit hDo hled hkx hnl' hsz hLts
      intro j s₁ s3 hj hinv2 cont2
      obtain ⟨M3, F3, hit3, hD3, hli3, hl3, hled3, hkx3, hnl3, hsz3⟩ := hinv2
      obtain ⟨y, ty, hv1, hv2⟩ := hns j hj
      refine seg_forLoop ?_
      rw [over_loop2 hfr hfr2]
      refine wpAny_pyNext_list_item hli3 hl3 hv1 fun h4 hli4 hs4 => ?_
      dsimp only
      refine wpAny_of_eq (a := ()) rfl ?_
      have hI2g := hgtop _ hBI2
      have F4 : Fr gb L' h4 _ := ⟨F3.ns.at' fun o e => (hs4.2 _ (Nat.ne_of_lt (Nat.lt_of_lt_of_le hLB hBI2))).trans e, fun b o e => (hs4.2 b (fun q => by rw [q, hI2g] at e; cases e)).trans (F3.keep b o e), F3.above⟩
      have hIN : hV.objs.size ≠ h8.objs.size := Nat.ne_of_lt (Heap.lt_size hit8')
      have hDN : D ≠ h8.objs.size := Nat.ne_of_lt (Nat.lt_trans hDLL hLLI)
      have hD4 := (hs4.2 _ hDN).trans hD3
      have hit4 := (hs4.2 _ hIN).trans hit3
      have k4 : KeepAll L' [h8.objs.size] s3.heap h4 := fun b o e _ c => (hs4.2 b (by simpa using c)).trans e
      have hled4 : ∀ p ∈ (ev, instObj 252 dv) :: (dv, dictOf (DEd w ta aa) 1) :: (aa, oa) :: tl, h4.get? p.1 = some p.2 := fun p hp => (hs4.2 _ (Nat.ne_of_lt (Nat.lt_trans (hLedlt p hp) (Nat.lt_trans hDLL hLLI)))).trans (hled3 p hp)
      have N4 : News gb L' h4 ((D, oD') :: (ev, instObj 252 dv) :: (dv, dictOf (DEd w ta aa) 1) :: (aa, oa) :: (tl ++ exs gb h4 L' [])) := fun p hp => by
        have old : ∀ q ∈ (ev, instObj 252 dv) :: (dv, dictOf (DEd w ta aa) 1) :: (aa, oa) :: tl, h4.get? q.1 = some q.2 ∧ q.1 ≠ L' ∧ gb.get? q.1 = none := fun q hq => ⟨hled4 q hq, hLed q hq⟩
        simp only [List.mem_cons, List.mem_append] at hp old
        rcases hp with h | h | h | h | h | h
        · rw [h]; exact ⟨hD4, Ne.symm hLD, hgtop _ hBD⟩
        · exact old p (by simp only [h, true_or, or_true])
        · exact old p (by simp only [h, true_or, or_true])
        · exact old p (by simp only [h, true_or, or_true])
        · exact old p (by simp only [h, true_or, or_true])
        · exact exs_news p h
      have kp4 : ∀ (h' : Heap) (m' : Str → Option Value) (led : List (Addr × Obj)), Fr gb L' h' m' → News gb L' h' led → (∀ p ∈ exs gb h4 L' [], p ∈ led) → KeepAll L' [] h4 h' := fun _ _ _ F' N' hs => exs_keep F4 F' N' hs
      have hLt3 := fr_notTup F3
      clear F3
      show wpAny _ ((ktrTop 302 10 gd cn { kind := .function, names := nms, isGenerator := sg, isCoroutine := sc, more := mo } L a ccd cl outer).deeper _) _ _ _ _
      k_steps
      refine seg_execs_cons (seg_If ?_)
      rw [over_loop2 hfr hfr2]
      show wpAny _ ((ktrTop 302 10 gd cn { kind := .function, names := nms, isGenerator := sg, isCoroutine := sc, more := mo } L a ccd cl outer).deeper _) _ _ _ _
      have hcase : (valueAt kvs y).isSome = decide (y ∈ (adj.take i).map (·.1)) := by rw [va_isSome, hks]
      have hI2L : h8.objs.size ≠ L' := Ne.symm (Nat.ne_of_lt (Nat.lt_of_lt_of_le hLB hBI2))
      have hLLN : LL ≠ h8.objs.size := Nat.ne_of_lt hLLI
      have hledS : ∀ p ∈ (ev, instObj 252 dv) :: (dv, dictOf (DEd w ta aa) 1) :: (aa, oa) :: tl, p.1 ∉ cw := fun p hp => hSn p (by
        simp only [List.mem_cons, List.mem_append] at hp ⊢
        rcases hp with h | h | h | h <;> simp only [h, true_or, or_true])
      have hBLL : Bn ≤ LL := Nat.le_trans hBD (Nat.le_of_lt hDLL)
      have hLLL : LL ≠ L' := Ne.symm (Nat.ne_of_lt (Nat.lt_of_lt_of_le hLB hBLL))
      have again : ∀ (s5 : Shared) (m5 : Str → Option Value), KeepAll L' [] h4 s5.heap → Fr gb L' s5.heap m5 → m5 (Str.ofString "n") = some (.int k tkk) → m5 (Str.ofString "seen") = some (.ref D) → s5.gens = s3.gens → s5.drawn = s3.drawn → s5.os = s3.os →
          EInv2 gb L' cw D hV.objs.size aa h8.objs.size LL ep Bn ((ev, instObj 252 dv) :: (dv, dictOf (DEd w ta aa) 1) :: (aa, oa) :: tl) oD' vs8.toArray aks.length (i + 1) k tkk (.ref x) (j + 1) s₁ s5 := by
        intro s5 m5 k5 F5 e1 e2 e3 e4 e5
        obtain ⟨M5, F5'⟩ := fr_pick2 F5 e1 e2
        have kall5 : KeepAll L' [h8.objs.size] s3.heap s5.heap := fun b o e a c => k5 b o (k4 b o e a c) a List.not_mem_nil
        obtain ⟨oi, hi1, hi2⟩ := hli4
        obtain ⟨ol, hl1, hl2⟩ := hl3
        have hi5 := k5 _ _ hi1 hI2L List.not_mem_nil
        refine ⟨M5, F5', k5 _ _ hit4 (Ne.symm hLI) List.not_mem_nil, k5 _ _ hD4 (Ne.symm hLD) List.not_mem_nil, ⟨oi, hi5, hi2⟩, ⟨ol, k5 _ _ ((hs4.2 _ hLLN).trans hl1) hLLL List.not_mem_nil, hl2⟩,
          fun p hp => k5 _ _ (hled4 p hp) (hLed p hp).1 List.not_mem_nil, ?_, ?_, Nat.le_trans hBI2 (Nat.le_of_lt (Heap.lt_size hi5))⟩
        · refine hkx3.trans (KeepAll.keepX (own := [h8.objs.size]) kall5 e3 e4 e5 hSL (fun b hb => ?_) hLt3)
          rw [List.mem_singleton.mp hb]
          refine ⟨hBI2, hge _ hBI2, fun o ho => ?_⟩
          obtain ⟨o', ho', hc', _⟩ := hli3
          rw [ho'] at ho
          cases ho
          rintro ⟨h, _⟩
          rw [hc'] at h
          exact absurd h (by decide)
        · exact kall5.noLimit hcsL (by simp only [List.mem_singleton]; exact hcsT _ hBI2) hnl3
      by_cases hm : y ∈ (adj.take i).map (·.1)
      · have hb : (valueAt kvs y).isSome = true := by rw [hcase]; exact decide_eq_true hm
        rw [rem_in hv2 hm]
        k_steps
        rename_i h5 F5 N5
        have k5 : KeepAll L' [] h4 h5 := kp4 _ _ _ F5 N5 fun p hp => by simp only [List.mem_cons, List.mem_append]; simp only [hp, true_or, or_true]
        exact seg_again rfl (cont2 s₁ _ (again _ _ k5 F5 (by kernel_rfl) (by kernel_rfl) rfl rfl rfl))
      · have hb : (valueAt kvs y).isSome = false := by rw [hcase]; exact decide_eq_false hm
        rw [rem_out hv2 hm, Nat.add_right_comm]
        k_steps
        rename_i h5 F5 N5
        refine seg_execs_cons (seg_Expr_Yield (split2 hfr hfr2).1 rfl (split2 hfr hfr2).2 ?_)
        rw [over_loop2 hfr hfr2]
        show wpAny _ ((ktrTop 302 10 gd cn { kind := .function, names := nms, isGenerator := sg, isCoroutine := sc, more := mo } L a ccd cl outer).deeper _) _ _ _ _
        k_steps
        rename_i TT h7 F7 N7 l7 kap hkap
        have k7 : KeepAll L' [] h4 h7 := kp4 _ _ _ F7 N7 fun p hp => by simp only [List.mem_cons, List.mem_append]; simp only [hp, true_or, or_true]
        have inv := again { s3 with heap := h7, toks := s3.toks + 1 + 1 } _ k7 F7 (by kernel_rfl) (by kernel_rfl) rfl rfl rfl
        have hkx := inv.choose_spec.2.2.2.2.2.2.1
        refine ⟨⟨TT, tkk, ty, rfl, ?_, Nat.le_trans hBD (Nat.le_of_lt l7.1)⟩, hkx, fun s'' henv hnl => hkap .none s'' ?_⟩
        · rw [show (fun j => (edgesFrom adj []).getD j (0, 0)) _ = _ from edge_at ha2 hv2 hm]
          exact (N7 (TT, _) (.head _)).1
        · exact seg_again rfl (cont2 s'' s'' (inv.env henv hnl hSL hgS hSB hBI hBD hBI2 hBLL hledS))
end Mine
end
section
open PySem PySem.W PySem.Calls PyProof.Rows
set_option maxRecDepth 100000
namespace Mine
section
variable {prog : Program} {w : World} {A : Around} {elt target iter : Expr} {scope : Scope} {pos : Pos} {I : Addr} {cenv : Env} {B : Nat} {wr cw : List Addr} {gn : List Nat} {n : Nat} {F : Nat → Heap → Value → Heap → Prop} {LSt : Nat → Shared → Prop}
/-- what the turns of a generator expression do, whose walkers write cw alone -/
structure TurnsX (prog : Program) (w : World) (A₂ : Around) (elt target : Expr) (I : Addr) (cenv : Env) (B : Nat) (wr cw : List Addr) (gn : List Nat) (n : Nat) (F : Nat → Heap → Value → Heap → Prop) (LSt : Nat → Shared → Prop) : Prop where
  frame : ∀ i s s', LSt i s → EnvX cw gn s s' → LSt i s'
  turn : ∀ i (s : Shared), i < n → LSt i s → s.heap.NoLimit → wpAny (model prog w) A₂ (pyNext (.ref I)) (fun ov s₁ => ∃ v, ov = some v ∧ wpAny (model prog w) A₂ (letOwnedTupleGo target (.ref I) v) (fun _ sa =>
    wpAny (model prog w) A₂ (assign target cenv v) (fun _ sb => wpAny (model prog w) A₂ (eval elt cenv) (fun y sc => LSt (i + 1) sc ∧ KeepX B wr cw gn s sc ∧ F i s.heap y sc.heap) Never sb) Never sa) Never s₁) Never s
  last : ∀ s : Shared, LSt n s → s.heap.NoLimit → wpAny (model prog w) A₂ (pyNext (.ref I)) (fun ov s₁ => ov = none ∧ KeepX B wr cw gn s s₁) Never s
theorem seg_genLoopX (hco : cenv.scope.isCoroutine = false) (T : TurnsX prog w (A.over (cLoop elt target iter scope pos I cenv) []) elt target I cenv B wr cw gn n F LSt) :
    ∀ (k i : Nat) (s : Shared), n - i = k → i ≤ n → LSt i s → s.heap.NoLimit →
      Seg (model prog w) A (genEndX true B wr cw gn) (genProtoX B wr cw gn n F) (n - i) s (cLoop elt target iter scope pos I cenv) ((model prog w).den (cLoop elt target iter scope pos I cenv)) [] s := by
  intro k
  induction k with
  | zero =>
    intro i s hk hi hst hl
    have hin : i = n := by omega
    subst hin
    show Seg _ A _ _ _ s _ ((compTurn (.GeneratorExp elt [⟨target, iter, [], 0⟩] scope pos) 0 (.ref I) .none cenv).onRaise (leaving cenv)) [] s
    rw [compTurn_gen, Sem.onRaise_eq_wrap]
    refine seg_bind_wrap (wpAny_standAt ?_)
    refine seg_bind_wrap (wpAny_mono (T.last s hst hl) (fun ov s₁ h => ?_) fun _ _ e => e.elim)
    obtain ⟨rfl, hm⟩ := h
    exact seg_end (.ok .next) ⟨rfl, Nat.sub_self _, hm⟩
  | succ k ih =>
    intro i s hk hi hst hl
    have hlt : i < n := by omega
    obtain ⟨q, hq⟩ : ∃ q, n - i = q + 1 := ⟨n - i - 1, by omega⟩
    rw [hq]
    show Seg _ A _ _ _ s _ ((compTurn (.GeneratorExp elt [⟨target, iter, [], 0⟩] scope pos) 0 (.ref I) .none cenv).onRaise (leaving cenv)) [] s
    rw [compTurn_gen, Sem.onRaise_eq_wrap]
    refine seg_bind_wrap (wpAny_standAt ?_)
    refine seg_bind_wrap (wpAny_mono (T.turn i s hlt hst hl) (fun ov s₁ h => ?_) fun _ _ e => e.elim)
    obtain ⟨v, rfl, h⟩ := h
    refine seg_bind_wrap (wpAny_mono h (fun _ sa h => ?_) fun _ _ e => e.elim)
    refine seg_bind_wrap (wpAny_mono h (fun _ sb h => ?_) fun _ _ e => e.elim)
    refine seg_bind_wrap (wpAny_pure ?_)
    simp only [if_true]
    have hy : ∀ v, yieldOut cenv v = yieldValue v := fun v => by simp only [yieldOut, hco, Bool.false_eq_true, if_false]
    simp only [hy]
    rw [Sem.bind_eq_wrap', Sem.bind_eq_wrap', Sem.wrap_wrap, Sem.wrap_wrap]
    refine seg_wrap (wpAny_mono h (fun y sc h => ?_) fun _ _ e => e.elim)
    obtain ⟨hst', hm, hF⟩ := h
    have hidx : n - 1 - q = i := by omega
    refine seg_at (seg_yield rfl rfl rfl ⟨by rw [hidx]; exact hF, hm, fun s'' hal hl'' => ?_⟩)
    have e : n - (i + 1) = q := by omega
    rw [← e]
    exact seg_again rfl (ih (i + 1) s'' (by omega) hlt (T.frame _ _ _ hst' hal) hl'')
theorem seg_genStartX (hco : cenv.scope.isCoroutine = false) (T : TurnsX prog w (A.over (cLoop elt target iter scope pos I cenv) []) elt target I cenv B wr cw gn n F LSt)
    (hself : ∀ (A' : Around) (E : Value → Shared → Prop) (Q : Value → Shared → Prop) (s : Shared), LSt 0 s → Q (.ref I) s → wpAny (model prog w) A' (pyIter (.ref I)) Q E s) (s : Shared) (hst : LSt 0 s) (hl : s.heap.NoLimit) :
    Seg (model prog w) A (genEndX true B wr cw gn) (genProtoX B wr cw gn n F) n s (cStart elt target iter scope pos I cenv) ((model prog w).den (cStart elt target iter scope pos I cenv)) [] s := by
  have loop := seg_genLoopX (A := A) hco T n 0 s (Nat.sub_zero _) (Nat.zero_le _) hst hl
  rw [Nat.sub_zero] at loop
  show Seg _ A _ _ _ s _ ((compStart (.GeneratorExp elt [⟨target, iter, [], 0⟩] scope pos) 0 (.ref I) .none cenv).onRaise (leaving cenv)) [] s
  unfold compStart
  rw [Sem.onRaise_eq_wrap]
  show Seg _ A _ _ _ s _ ((ask >>= _).wrap _ _ _ _) [] s
  refine seg_bind_wrap (wpAny_askSetting ?_)
  split
  · exact seg_again rfl loop
  · first
      | exact seg_bind_wrap (wpAny_rule (seg_bind_wrap (wpAny_standAt (seg_bind_wrap (hself _ _ _ s hst (seg_again rfl loop))))))
      | (refine seg_bind_wrap (wpAny_rule ?_); show Seg _ A _ _ _ s _ ((standAt iter.pos >>= _).wrap _ _ _ _) [] s; exact seg_bind_wrap (wpAny_standAt (seg_bind_wrap (hself _ _ _ s hst (seg_again rfl loop)))))
/-- a generator expression just made -/
theorem GenAtX.fresh {a : Addr} {g : Nat} {s : Shared} (hco : cenv.scope.isCoroutine = false) (T : TurnsX prog w (A.in1.over (cLoop elt target iter scope pos I cenv) []) elt target I cenv B wr cw gn n F LSt)
    (hself : ∀ (A' : Around) (E : Value → Shared → Prop) (Q : Value → Shared → Prop) (s : Shared), LSt 0 s → Q (.ref I) s → wpAny (model prog w) A' (pyIter (.ref I)) Q E s)
    (hg : s.heap.IsGen a g) (hgs : s.gens[g]? = some (.fresh (cStart elt target iter scope pos I cenv))) (hst : LSt 0 s) : GenAtX prog w A true a g B wr cw gn n F 0 s :=
  ⟨hg, _, hgs, fun s'' hal hl => ⟨rfl, seg_genStartX (A := A.in1) hco T hself s'' (T.frame _ _ _ hst hal) hl⟩⟩
end
section
variable {prog : Program} {w : World} {A : Around} {R : Result → Shared → Prop} {I : Addr} {B : Nat} {wr cw : List Addr} {gn : List Nat} {n : Nat} {St : Nat → Shared → Prop} {val : Nat → Int}
def IntP (val : Nat → Int) : Nat → Heap → Value → Heap → Prop := fun i _ v _ => ∃ t, v = .int (val i) t
/-- the loop of sum over such an iterator, over ints -/
theorem codeAny_sum_ItX {S : Addr} (W : ItX prog w A.in1 I B wr cw gn n (IntP val) St) (hSc : S ∈ cw) (hcs : cStatics < B ∧ cStatics ∉ wr) (hcS : cStatics ≠ S) :
    ∀ (k i : Nat) (s : Shared) (tA : Tok) (c : Nat) (stage : Int), (stage = 0 ∨ stage = 2) → n - i = k → i ≤ n → St i s → s.heap.NoLimit → s.heap.get? S = some { cls := .type "list", dict := none, data := .seq #[.int (preSum val i) tA] c, slots := #[] } →
    (∀ s' t', (∀ b o, b ≠ S → s.heap.get? b = some o → ((b < B ∧ b ∉ wr) ∨ b ∈ cw) → s'.heap.get? b = some o) → GIn gn s.gens s'.gens → s'.drawn = s.drawn → s'.os = s.os → R (.ok (.ret (.int (preSum val n) t'))) s') →
    codeAny (model prog w) A (.builtin "sum.loop" ⟨[.ref I, .ref S, rawInt stage, rawInt 0], []⟩) R s := by
  intro k
  induction k with
  | zero =>
    intro i s tA c stage hstage hk hi hst hnl hS hR
    have hin : i = n := by omega
    subst hin
    refine codeAny_builtin PySem.F.entry_sum_loop ?_
    rw [Around.under_plainId PySem.F.plain_sum_loop _]
    show wpAny _ A.in1 (seqItems? (.ref S) >>= _) _ _ s
    refine wpAny_bind (wpAny_seqItems hS rfl ?_)
    show wpAny _ A.in1 (tryCatch (pyNext (.ref I)) _ >>= _) _ _ s
    refine wpAny_bind (wpAny_tryCatch (W.done s _ _ hst hnl fun s' hm => ?_))
    exact wpAny_pure (hR s' tA (fun b o _ e h => hm.heap b o e (h.elim .inl fun q => .inr (.inl q))) hm.gens hm.drawn hm.os)
  | succ k ih =>
    intro i s tA c stage hstage hk hi hst hnl hS hR
    have hlt : i < n := by omega
    refine codeAny_builtin PySem.F.entry_sum_loop ?_
    rw [Around.under_plainId PySem.F.plain_sum_loop _]
    show wpAny _ A.in1 (seqItems? (.ref S) >>= _) _ _ s
    refine wpAny_bind (wpAny_seqItems hS rfl ?_)
    show wpAny _ A.in1 (tryCatch (pyNext (.ref I)) _ >>= _) _ _ s
    refine wpAny_bind (wpAny_tryCatch (W.item i s _ _ hlt hst hnl fun v s' hP hst' hm => ?_))
    obtain ⟨t, rfl⟩ := hP
    have hS' := hm.heap S _ hS (.inr (.inl hSc))
    have hnl' := hm.noLimit hcs hnl
    have up : ∀ b o, b ≠ S → s.heap.get? b = some o → ((b < B ∧ b ∉ wr) ∨ b ∈ cw) → s'.heap.get? b = some o := fun b o _ e h => hm.heap b o e (h.elim .inl fun q => .inr (.inl q))
    have oth : ∀ (f : Obj → Obj) (hh : Heap) b o, b ≠ S → hh.get? b = some o → (hh.update S f).get? b = some o := fun f hh b o hb e => (Heap.get?_update_other _ _ (Ne.symm hb)).trans e
    have nl : ∀ (f : Obj → Obj) (hh : Heap), hh.NoLimit → (hh.update S f).NoLimit := fun f hh ⟨mc, hns, hnn⟩ => ⟨mc, hns.at' fun o e => oth f hh _ o hcS e, hnn⟩
    have env' : ∀ (f : Obj → Obj) (x : Shared) (tk : Nat) (o' : Obj), (x.heap.update S f).get? S = some o' → EnvX cw gn x { x with heap := x.heap.update S f, toks := tk } := fun f x tk o' hS => ⟨fun b o hb e => oth f _ b o (fun h => hb (h ▸ hSc)) e, fun _ _ => rfl, live_upd hS fun b o q e => oth f _ b o q e⟩
    rcases hstage with rfl | rfl
    · show wpAny _ A.in1 (if (_ : Bool) = true then (mkInt (preSum val i + val i) >>= _) else _) _ _ _
      split
      · refine wpAny_bind (wpAny_mkInt ?_)
        show wpAny _ A.in1 (updateSeq S (fun _ => #[.int (preSum val i + val i) s'.toks]) >>= _) _ _ _
        refine wpAny_bind ?_
        refine wpAny_updateSeq hS' rfl (wpAny_pure ⟨plainId_quiet PySem.F.plain_sum_loop _, ih (i + 1) _ s'.toks _ 0 (Or.inl rfl) (by omega) hlt (W.frame _ s' _ hst' (env' _ _ _ _ (Heap.get?_update_self _ hS' rfl))) (nl _ _ hnl') (Heap.get?_update_self _ hS' rfl) fun s'' t'' h1 h2 h3 h4 => ?_⟩)
        exact hR s'' t'' (fun b o hb e h => h1 b o hb (oth _ _ b o hb (up b o hb e h)) h) (hm.gens.trans h2) (h3.trans hm.drawn) (h4.trans hm.os)
      · refine wpAny_bind (wpAny_rule ?_)
        refine wpAny_bind (wpAny_attempt (wpAny_holding (PySem.P.add_int ?_)))
        show wpAny _ A.in1 (updateSeq S (fun _ => #[.int (preSum val i + val i) s'.toks]) >>= _) _ _ _
        refine wpAny_bind ?_
        refine wpAny_updateSeq hS' rfl ?_
        have hS2 := Heap.get?_update_self (Obj.mapSeq fun _ => #[Value.int (preSum val i + val i) s'.toks]) hS' rfl
        refine wpAny_bind (wpAny_letGo ?_)
        refine wpAny_bind ?_
        refine wpAny_updateSeq hS2 rfl (wpAny_pure ⟨plainId_quiet PySem.F.plain_sum_loop _, ih (i + 1) _ s'.toks _ 2 (Or.inr rfl) (by omega) hlt (W.frame _ s' _ hst' ?_) (nl _ _ (nl _ _ hnl')) (Heap.get?_update_self _ hS2 rfl) fun s'' t'' h1 h2 h3 h4 => ?_⟩)
        · exact ⟨fun b o hb e => oth _ _ b o (fun h => hb (h ▸ hSc)) (oth _ _ b o (fun h => hb (h ▸ hSc)) e), fun _ _ => rfl, live_upd (Heap.get?_update_self _ hS2 rfl) fun b o q e => oth _ _ b o q (oth _ _ b o q e)⟩
        · exact hR s'' t'' (fun b o hb e h => h1 b o hb (oth _ _ b o hb (oth _ _ b o hb (up b o hb e h))) h) (hm.gens.trans h2) (h3.trans hm.drawn) (h4.trans hm.os)
    · show wpAny _ A.in1 ((holding [Value.int (val i) t] (binaryOp .Add (.int (preSum val i) tA) (.int (val i) t))).attempt >>= _) _ _ _
      refine wpAny_bind (wpAny_attempt (wpAny_holding (PySem.P.add_int ?_)))
      show wpAny _ A.in1 (updateSeq S (fun _ => #[.int (preSum val i + val i) s'.toks]) >>= _) _ _ _
      refine wpAny_bind ?_
      refine wpAny_updateSeq hS' rfl ?_
      have hS2 := Heap.get?_update_self (Obj.mapSeq fun _ => #[Value.int (preSum val i + val i) s'.toks]) hS' rfl
      refine wpAny_bind (wpAny_letGo ?_)
      refine wpAny_bind ?_
      refine wpAny_updateSeq hS2 rfl (wpAny_pure ⟨plainId_quiet PySem.F.plain_sum_loop _, ih (i + 1) _ s'.toks _ 2 (Or.inr rfl) (by omega) hlt (W.frame _ s' _ hst' ?_) (nl _ _ (nl _ _ hnl')) (Heap.get?_update_self _ hS2 rfl) fun s'' t'' h1 h2 h3 h4 => ?_⟩)
      · exact ⟨fun b o hb e => oth _ _ b o (fun h => hb (h ▸ hSc)) (oth _ _ b o (fun h => hb (h ▸ hSc)) e), fun _ _ => rfl, live_upd (Heap.get?_update_self _ hS2 rfl) fun b o q e => oth _ _ b o q (oth _ _ b o q e)⟩
      · exact hR s'' t'' (fun b o hb e h => h1 b o hb (oth _ _ b o hb (oth _ _ b o hb (up b o hb e h))) h) (hm.gens.trans h2) (h3.trans hm.drawn) (h4.trans hm.os)
end
section
variable {prog : Program} {w : World} {A : Around} {E : Value → Shared → Prop} {s : Shared}
theorem call_sum_ItX {x : Value} {Q : Value → Shared → Prop}
    (h : wpAny (model prog w) A.in1 (pyIter x) (fun it s₂ => ∃ I, it = .ref I ∧ ∀ S h₃ tk, S = s₂.heap.objs.size → h₃ = s₂.heap.push { cls := .type "list", data := .seq #[.int 0 s₂.toks] } → ∃ B wr cw gn n val St, ItX prog w A.in1 I B wr cw gn n (IntP val) St ∧ S ∈ cw ∧ (cStatics < B ∧ cStatics ∉ wr) ∧ cStatics ≠ S ∧
      St 0 { s₂ with heap := h₃, toks := tk } ∧ h₃.NoLimit ∧
      ∀ s' t', (∀ b o, b ≠ S → h₃.get? b = some o → ((b < B ∧ b ∉ wr) ∨ b ∈ cw) → s'.heap.get? b = some o) → GIn gn s₂.gens s'.gens → s'.drawn = s₂.drawn → s'.os = s₂.os → Q (.int (preSum val n) t') s') E s) :
    wpAny (model prog w) A (call (.builtin "sum") [x]) Q E s := by
  refine call_function_tree PySem.F.kind_sum PySem.F.plain_sum PySem.F.entry_sum (PySem.F.args_sum1 _) ?_
  unfold Builtin.«sum»
  simp only [List.length_cons, List.length_nil]
  rw [if_neg (by decide)]
  refine wpAny_bind (wpAny_of_eq (show Builtin.Builtins.bindParams "sum" ["start"] 0 { } = pure [none] from rfl) ?_)
  refine wpAny_bind (wpAny_mono h (fun it s₂ h₂ => ?_) fun _ _ e => e)
  obtain ⟨I, rfl, h₃⟩ := h₂
  refine wpAny_bind (wpAny_mkInt ?_)
  refine wpAny_bind (wpAny_pure ?_)
  simp only [List.forIn_cons, List.forIn_nil]
  refine wpAny_bind (wpAny_bind (wpAny_bind (wpAny_isInstance (T := "int") (b := false) (typeIs_int _ _ _) PySem.sub_int_str ?_)))
  simp only [Bool.false_eq_true, if_false]
  refine wpAny_pure (wpAny_bind (wpAny_bind (wpAny_isInstance (T := "int") (b := false) (typeIs_int _ _ _) PySem.sub_int_bytes ?_)))
  simp only [Bool.false_eq_true, if_false]
  refine wpAny_pure (wpAny_bind (wpAny_bind (wpAny_isInstance (T := "int") (b := false) (typeIs_int _ _ _) PySem.sub_int_bytearray ?_)))
  simp only [Bool.false_eq_true, if_false]
  refine wpAny_pure (wpAny_pure ?_)
  refine wpAny_bind (wpAny_newObj_type ?_)
  obtain ⟨B, wr, cw, gn, n, val, St, W, hSc, hcs, hcS, hst, hnl, hQ⟩ := h₃ s₂.heap.objs.size _ (s₂.toks + 1) rfl rfl
  exact wpAny_pure ⟨plainId_quiet PySem.F.plain_sum_loop _, codeAny_sum_ItX W hSc hcs hcS n 0 _ s₂.toks 0 0 (Or.inl rfl) rfl (Nat.zero_le _) hst hnl (Heap.get?_push_size _ rfl) fun s' t' h1 h2 h3 h4 => hQ s' t' h1 h2 h3 h4⟩
end
end Mine
end
section
open PySem PySem.W PySem.Calls PyProof.Rows
set_option maxRecDepth 100000
namespace Mine
section
variable {w : World} {A : Around} {h₀ : Heap} {C I aa S : Addr} {oa : Obj} {aks : List (Int × Value)} {adj : List (Int × List Int)} {tl : List (Addr × Obj)} {mean : ExcName → Option Value} {mg mb : Str → Option Value}
  {scope : Scope} {cl : List (Str × Addr)} {code : Value} {env : Env} {p1 p2 p3 p4 p5 p6 p7 p8 p9 p10 : Pos} {k10 : Nat} {B ep : Nat}
def lenVal (adj : List (Int × List Int)) (i : Nat) : Int := match adj[i]? with
  | some (k, ns) => (ns.length : Int) + if decide (k ∈ ns) = true then 1 else 0
  | none => 0
theorem keepX_off {B : Nat} {wr cw : List Addr} {gn : List Nat} {s s' : Shared} (h : ∀ b o, b ∉ wr → s.heap.get? b = some o → s'.heap.get? b = some o) (hc : ∀ b ∈ cw, b ∉ wr) (ht : ∀ b ∈ wr, ∀ o, s.heap.get? b = some o → ¬ TupO o)
    (h1 : s'.gens = s.gens) (h2 : s'.drawn = s.drawn) (h3 : s'.os = s.os) : KeepX B wr cw gn s s' where
  heap := fun b o e hb => h b o (by
    rcases hb with ⟨_, q⟩ | q | q
    · exact q
    · exact hc b q
    · exact fun hm => ht b hm o e q) e
  gens := by rw [h1]; exact .refl _ _
  drawn := h2
  os := h3
theorem ns_notTup {h : Heap} {C : Addr} {m : Str → Option Value} {o : Obj} (hn : h.Ns C m) (ho : h.get? C = some o) : ¬ TupO o := by
  obtain ⟨oL, es, ep, hL, hd, _⟩ := hn
  rintro ⟨_, xs, n, hx⟩
  rw [hL] at ho
  cases ho
  rw [hd] at hx
  cases hx
theorem itemIter_notTup {d : Addr} {i n ep : Nat} {ok ov : Value} : ¬ TupO { cls := .type "dict_itemiterator", dict := none, data := .fields #[.none, .bool false, .ref d, .int i 0, .int n 0, .int ep 0, ok, ov], slots := #[] } := by
  rintro ⟨h, _⟩
  exact absurd (show Value.type "dict_itemiterator" = Value.type "tuple" from h) (by decide)
theorem keys_in {kvs : List (Int × Value)} {k : Int} : (valueAt kvs k).isSome = decide (k ∈ kvs.map (·.1)) := va_isSome _ _
theorem lenTurns (hh : A.handled = none) (T : Top TP LS mean mg mb h₀) (hg : env.globals = mainGlobals) (hk : scope.kind = .function)
    (hxl : (genEnv scope cl C code builtinsNs env).kindOf "len" = some .globalImplicit) (hxn : (genEnv scope cl C code builtinsNs env).kindOf "n" = some .local) (hxb : (genEnv scope cl C code builtinsNs env).kindOf "nbrs" = some .local)
    (hoa : oa.IsDictOf (PySem.intKind PP w) aks) (hinn : Inn (prog := PP) w tl aks adj) (hcl : Closed adj) (hlen : adj.length ≤ 11)
    (hCI : C ≠ I) (hSC : S ≠ C) (hSI : S ≠ I) (ha : aa ≠ C ∧ aa ≠ I ∧ aa ≠ S) (htl : ∀ p ∈ tl, p.1 ≠ C ∧ p.1 ≠ I ∧ p.1 ≠ S) (h0C : h₀.get? C = none) (h0I : h₀.get? I = none) (h0S : h₀.get? S = none) :
    TurnsX PP w A (.BinOp (.Call (.Name "len" p1) [.Name "nbrs" p2] [] p3) .Add (.Compare (.Name "n" p4) [.In] [.Name "nbrs" p5] p6) p7) (.Tuple [.Name "n" p8, .Name "nbrs" p9] k10 p10) I (genEnv scope cl C code builtinsNs env)
      B [C, I] [S] [] aks.length (IntP (lenVal adj)) (fun i s => (∃ ok ov, IsItemIter s.heap I aa i aks.length ep ok ov) ∧ (∃ m oC, s.heap.Ns C m ∧ s.heap.get? C = some oC ∧ ¬ TupO oC) ∧ s.heap.DictAt (PySem.intKind PP w) aa aks ep ∧ (∀ p ∈ tl, s.heap.get? p.1 = some p.2) ∧ (∀ b o, h₀.get? b = some o → s.heap.get? b = some o)) where
  frame := fun i s s' st hs => by
    obtain ⟨⟨ok, ov, h1⟩, ⟨m, oC, h2, h2', h2''⟩, ⟨oA, es, h3, h3'⟩, h4, h5⟩ := st
    have up : ∀ b o, b ≠ S → s.heap.get? b = some o → s'.heap.get? b = some o := fun b o hb e => hs.heap b o (by simpa using hb) e
    exact ⟨⟨ok, ov, up _ _ (Ne.symm hSI) h1⟩, ⟨m, oC, h2.at' fun o e => up _ o (Ne.symm hSC) e, up _ _ (Ne.symm hSC) h2', h2''⟩, ⟨oA, es, up _ _ ha.2.2 h3, h3'⟩, fun p hp => up _ _ (htl p hp).2.2 (h4 p hp),
      fun b o e => up b o (fun q => by rw [q, h0S] at e; cases e) (h5 b o e)⟩
  turn := fun i s hi st hl => by
    obtain ⟨⟨ok, ov, hit⟩, ⟨m, oC, hns, hoC, hnt⟩, hda, htls, hkeep⟩ := st
    obtain ⟨k, x, ox, kvi, ha1, ha2, ha3, ha4, ha5⟩ := hinn.at i (hinn.len ▸ hi)
    refine wpAny_pyNext_items_item (knd := PySem.intKind PP w) hit hda ha1 fun key h1 hkey hout htup hsz hk1 => ⟨_, rfl, ?_⟩
    obtain ⟨tkk, rfl⟩ := Value.isInt_shape hkey
    refine wpAny_letOwnedTupleGo_items hout fun h2 hit2 hs2 => ?_
    have hTI : s.heap.objs.size ≠ I := fun e => absurd (Heap.lt_size hit) (by rw [← e]; exact Nat.lt_irrefl _)
    have hTC : s.heap.objs.size ≠ C := fun e => absurd (Heap.lt_size hoC) (by rw [← e]; exact Nat.lt_irrefl _)
    have up2 : ∀ b o, b ≠ I → s.heap.get? b = some o → h2.get? b = some o := fun b o hb e => (hs2.2 b hb).trans (hk1 b o hb e)
    have hT2 : h2.IsTuple s.heap.objs.size #[.int k tkk, .ref x] := ⟨_, (hs2.2 _ hTI).trans htup, rfl, 0, rfl⟩
    refine wpAny_assign_Tuple hh hT2 rfl rfl fun h3 hx3 => ?_
    have hsz2 : h2.objs.size = s.heap.objs.size + 1 := hs2.1.trans hsz
    have up3 : ∀ b o, b ≠ I → s.heap.get? b = some o → h3.get? b = some o := fun b o hb e => hx3 b o (by have := Heap.lt_size e; rw [hsz2]; exact Nat.ne_of_lt (Nat.lt_succ_of_lt this)) (up2 b o hb e)
    have hIlt := Heap.lt_size hit
    have hit3 : IsItemIter h3 I aa (i + 1) aks.length ep (.int k tkk) (.ref x) := hx3 I _ (by show I ≠ h2.objs.size; rw [hsz2]; exact Nat.ne_of_lt (Nat.lt_succ_of_lt hIlt)) hit2
    have hn3 : h3.Ns (genEnv scope cl C code builtinsNs env).locals m := hns.at' fun o e => up3 _ o hCI e
    have hkd : (genEnv scope cl C code builtinsNs env).scope.kind = .function := hk
    show wpAny _ A (holding [.ref x] (assign (.Name "n" p8) (genEnv scope cl C code builtinsNs env) (.int k tkk)) >>= fun _ => (holding [] (assign (.Name "nbrs" p9) (genEnv scope cl C code builtinsNs env) (.ref x)) >>= fun _ => pure ())) _ _ _
    refine wpAny_bind (wpAny_holding (wpAny_assign_Name (wpAny_storeName_local hxn hn3 (fun h4 hn4 hs4 => ?_) (by rw [hkd]; rfl))))
    refine wpAny_bind (wpAny_holding (wpAny_assign_Name (wpAny_storeName_local hxb hn4 (fun h5 hn5 hs5 => wpAny_pure ?_) (by rw [hkd]; rfl))))
    have up5 : ∀ b o, b ∉ [C, I] → s.heap.get? b = some o → h5.get? b = some o := fun b o hb e => by
      simp only [List.mem_cons, List.not_mem_nil, or_false, not_or] at hb
      exact (hs5.2 b hb.1).trans ((hs4.2 b hb.1).trans (up3 b o hb.2 e))
    have hkeep5 : ∀ b o, h₀.get? b = some o → h5.get? b = some o := fun b o e => up5 b o (by
      simp only [List.mem_cons, List.not_mem_nil, or_false, not_or]
      exact ⟨fun q => (by rw [q, h0C] at e; cases e), fun q => (by rw [q, h0I] at e; cases e)⟩) (hkeep b o e)
    have tl5 : ∀ p ∈ tl, h5.get? p.1 = some p.2 := fun p hp => up5 _ _ (by simp only [List.mem_cons, List.not_mem_nil, or_false, not_or]; exact ⟨(htl p hp).1, (htl p hp).2.1⟩) (htls p hp)
    have hdx : h5.DictOf (PySem.intKind PP w) x kvi := Heap.dictOf_iff.mpr ⟨ox, tl5 _ ha3, ha4⟩
    have vn : (fun y => if y = Str.ofString "nbrs" then some (Value.ref x) else (fun y => if y = Str.ofString "n" then some (Value.int k tkk) else m y) y) (Str.ofString "n") = some (.int k tkk) := by simp +decide
    have vb : (fun y => if y = Str.ofString "nbrs" then some (Value.ref x) else (fun y => if y = Str.ofString "n" then some (Value.int k tkk) else m y) y) (Str.ofString "nbrs") = some (.ref x) := by simp +decide
    have T5 := T.keeps hkeep5
    have hkl : kvi.length ≤ 11 := by
      have h1 := nbr_len hcl (List.mem_of_getElem? ha2) (dict_keys_nodup ha4)
      rw [List.length_map] at h1
      omega
    have nb : ∀ (Q : Value → Shared → Prop) (s' : Shared) (p : Pos), s'.heap = h5 → Q (.ref x) s' → wpAny (model PP w) A (eval (.Name "nbrs" p) (genEnv scope cl C code builtinsNs env)) Q Never s' := fun Q s' p e hq => wpAny_Name (wpAny_loadName_local hk hxb (m := _) (e ▸ hn5) vb hq)
    refine wpAny_BinOp (Call_name1 rfl (Name_function_global hk hxl (loadGlobal_builtin (env := genEnv scope cl C code builtinsNs env) (show _ from hg ▸ T5.g) (T5.free "len" (by decide +kernel) (by decide +kernel) (by decide +kernel) (by decide +kernel) (by decide +kernel)) T5.b ((T5.builtins "len" (by decide)).trans (by boot_fast)) ?_)))
    refine callWith_builtin1 (nb _ _ _ rfl (call_len_dict ha5 hdx (by omega) ?_))
    refine wpAny_Compare1 (wpAny_Name (wpAny_loadName_local hk hxn hn5 vn (nb _ _ _ rfl (wpAny_in_of (intKind_is _ _ _ _) ha5 hdx.mapOf ?_))))
    have hkx : ∀ tk, KeepX B [C, I] [S] [] s { s with heap := h5, toks := tk } := fun tk => keepX_off up5 (by simp [hSC, hSI]) (fun b hb o e => ?_) rfl rfl rfl
    · obtain ⟨oC5, hoC5⟩ : ∃ o, h5.get? C = some o := by obtain ⟨o, _, _, ho, _⟩ := hn5; exact ⟨o, ho⟩
      refine add_int_bool ⟨⟨⟨_, _, (hs5.2 I (Ne.symm hCI)).trans ((hs4.2 I (Ne.symm hCI)).trans hit3)⟩, ⟨_, oC5, hn5, hoC5, ns_notTup hn5 hoC5⟩, ?_, tl5, hkeep5⟩, hkx _, ?_⟩
      · obtain ⟨oA, es, h3, h3'⟩ := hda
        exact ⟨oA, es, up5 _ _ (by simp [ha.1, ha.2.1]) h3, h3'⟩
      · have hlv : (kvi.length : Int) + (if (valueAt kvi k).isSome = true then 1 else 0) = lenVal adj i := by
          unfold lenVal
          rw [ha2, va_isSome]
          simp only [List.length_map]
        exact ⟨_, congrArg (fun z => Value.int z _) hlv⟩
    · simp only [List.mem_cons, List.not_mem_nil, or_false] at hb
      rcases hb with rfl | rfl
      · rw [hoC] at e; cases e; exact hnt
      · rw [hit] at e; cases e; exact itemIter_notTup
  last := fun s st hl => by
    obtain ⟨⟨ok, ov, hit⟩, ⟨m, oC, hns, hoC, hnt⟩, hda, htls, hkeep⟩ := st
    refine wpAny_pyNext_items_end (kvs := aks) hh hit hda (by simp) fun h' hext => ⟨rfl, ?_⟩
    refine keepX_off (fun b o hb e => hext b o (fun q => hb (by simp [q])) e) (by simp [hSC, hSI]) (fun b hb o e => ?_) rfl rfl rfl
    simp only [List.mem_cons, List.not_mem_nil, or_false] at hb
    rcases hb with rfl | rfl
    · rw [hoC] at e; cases e; exact hnt
    · rw [hit] at e; cases e; exact itemIter_notTup
end
end Mine
end
section
open PySem PySem.W PySem.Calls PyProof.Rows
set_option maxRecDepth 100000
namespace Mine
section
variable {prog : Program} {w : World} {A : Around} {E : Value → Shared → Prop} {s : Shared} {h₀ : Heap} {mg : Str → Option Value} {x : Str} {C : Addr} {bm : List Value} {newId initId B : String} {np cpos pos : Pos} {env : Env} {Q : Flow → Shared → Prop}
theorem Raise_ownX {e₀ : Expr} {rest : List Expr} (hkeep : ∀ b o, h₀.get? b = some o → s.heap.get? b = some o) (O : OwnCls x C bm newId mg h₀) (FB : ExcBaseFacts B newId initId bm) (hh : A.handled = none)
    (hname : ∀ Q' : Value → Shared → Prop, Q' (.ref C) s → wpAny (model prog w) A (eval (.Name x np) env) Q' E s)
    (h : wpAny (model prog w) A (spliced (backTo cpos (starEach (e₀ :: rest) env))) (fun vs s₂ => vs.length ≤ sizeLine ∧ (∀ b o, h₀.get? b = some o → s₂.heap.get? b = some o) ∧
      ∀ h' e, Heap.MadeExcOf s₂.heap h' e (.ref C) vs → E (.ref e) { s₂ with heap := h' }) E s)
    (he : starEach (e₀ :: rest) env = (false, eval e₀ env) :: starEach rest env := by rfl)
    (hplain : (backTo cpos (starEach rest env)).any (·.1) = false := by rfl) :
    wpAny (model prog w) A (exec (.Raise (some (.Call (.Name x np) (e₀ :: rest) [] cpos)) none pos) env) Q E s := by
  obtain ⟨tl, N, nm, q, bs, hdct, sn, sub, ab, col, dd, k0, k1, k2, k3, k5, mN, hC, hN, hni, T⟩ := O.obj
  refine wpAny_Raise_call_subT (C := C) (nm := nm) (q := q) (N := N) (bs := bs) (bm := tl) (hdct := hdct) (sn := sn) (sub := sub) (ab := ab) (col := col) (dd := dd) (k0 := k0) (k1 := k1) (k2 := k2) (k3 := k3) (k5 := k5)
    FB (mN := mN) (T.hasType FB.hasBase) hh (by rw [he]; show (false || (backTo cpos (starEach rest env)).any (·.1)) = false; rw [hplain]; rfl) hni (hname _ ⟨rfl, ?_⟩)
  rw [he] at h ⊢
  exact Calls.evalArgs_plain (wpAny_mono h (fun vs s₂ h₂ => ⟨rfl, h₂.1, h₂.2.1 _ _ hC, hN.keeps h₂.2.1, T.keeps h₂.2.1, h₂.2.2⟩) fun _ _ y => y)
end
section
variable {M : Model} {A : Around} {E : Value → Shared → Prop} {s' : Shared} {base g g₂ h : Heap} {outer : List Env} {L a e t : Addr} {m : Str → Option Value} {Q : Unit → Shared → Prop} {news : List (Addr × Obj)} {env : Env}
theorem leave_raiseX {cls : Value} {vs : List Value} (K : Below A base outer g) (hx : Heap.MadeExcOf h s'.heap e cls vs) (F : Fr g L h m) (N : News g L h news) (hf : env.frame = some L)
    (hQ : ∀ h' t, RaisedK base outer e cls t vs news h' → g.UpToSlots h' → Q () { s' with heap := h' }) (hk : env.scope.kind = .function) :
    wpAny M (A.deeper env) (leaving env (.ref e)) Q E s' := by
  have K' := pushX (env := env) K F hf hk
  have hin : ∀ env' ∈ (env :: outer), ∀ b, env'.frame = some b → b ∈ (env :: outer).filterMap (·.frame) := fun env' he b hb => List.mem_filterMap.mpr ⟨env', he, hb⟩
  have st : base.StaysIn (hideAll h ((env :: outer).filterMap (·.frame))) := fun b o q => hideAll_get _ (K'.stays b o q) fun hm => by
    rw [(K'.frames.mem hm).1] at q; cases q
  have hl : ∀ q ∈ news, (hideAll h ((env :: outer).filterMap (·.frame))).get? q.1 = some q.2 ∧ base.get? q.1 = none := fun q hq => by
    refine ⟨hideAll_get _ (N q hq).1 fun hm => ?_, fresh_of_stays K.stays (N q hq).2.2⟩
    obtain ⟨env', he, hf'⟩ := List.mem_filterMap.mp hm
    rcases List.mem_cons.mp he with rfl | he
    · exact (N q hq).2.1 (Option.some.inj (hf.symm.trans hf')).symm
    · obtain ⟨o, ho, _⟩ := (K.frames.mem (List.mem_filterMap.mpr ⟨env', he, hf'⟩)).2
      rw [(N q hq).2.2] at ho; cases ho
  exact wpAny_leaves_madeW K'.stack hf (fun b o q => of_hideAll _ q) (funFrames_hide K'.frames hin) hx fun h' t x1 x2 x3 x4 =>
    hQ h' t ⟨⟨_, st, hl, x1, x3⟩, x2⟩ (((Heap.UpToSlots.of_keeps F.keep).trans (Heap.UpToSlots.of_keeps hx.keeps)).trans x4)
end
section
variable {prog : Program} {w : World} {A₀ : Around} {E : Value → Shared → Prop} {s' : Shared} {h₀ h : Heap} {outer : List Env} {L a e t : Addr} {m : Str → Option Value} {env : Env}
  {vs : List Value} {b₀ : Stmt} {suite : List Stmt} {pos np : Pos} {rest : List ExceptHandler} {Q : Flow → Shared → Prop} {news : List (Addr × Obj)}
  {p : Program} {loose : List Str} {mg mb : Str → Option Value} {x : Str} {KF : Frag} {C : Addr} {bmB : List Value} {newId : String}
theorem caught_OX (K : Below A₀ h₀ outer h₀) (F : Fr h₀ L h m) (hsm : h.UpToSlots s'.heap) (R : RaisedK h₀ (env :: outer) e (.ref C) t vs news s'.heap)
    (X : KF.In h₀) (T : TopRead p loose mg mb h₀) (ex : nsIn KF mainGlobals x = some (some (.ref C))) (q : excIn KF C bmB newId = true) (hbase : bmB.contains (.type "BaseException") = true) (hfL : env.frame = some L)
    (hname : ∀ (A' : Around) (E' : Value → Shared → Prop) (Q' : Value → Shared → Prop) (s₁ : Shared), Fr h₀ L s₁.heap m → Q' (.ref C) s₁ → wpAny (model prog w) A' (eval (.Name x np) env) Q' E' s₁)
    (k : ∀ h' news₂, Fr h₀ L h' m → News h₀ L h' news₂ → Got news₂ e t (.ref C) vs → News h₀ L h' news →
      wpAny (model prog w) ((A₀.deeper env).mark (some (.ref e))) (execs (b₀ :: suite) env) Q E { s' with heap := h' })
    (hE : PassesOwnAt (model prog w) ((A₀.deeper env).mark (some (.ref e))) (A₀.deeper env) env E := by passes_own) :
    wpAny (model prog w) (A₀.deeper env) (noteFrame (.ref e) env)
      (fun _ s₂ => wpAny (model prog w) (A₀.deeper env) (setFlight (.ref e) none) (fun _ s₃ =>
        wpAny (model prog w) (A₀.deeper env) (handleBy (.ref e) env (.ExceptHandler (some (.Name x np)) none (b₀ :: suite) pos :: rest)) Q E s₃) E s₂) E s' := by
  obtain ⟨⟨B, hB, hl, hfl, hnew⟩, htup⟩ := R
  have hL : B.get? L = none := by
    obtain ⟨_, ⟨L', _, hf, hn', _⟩, _⟩ := hfl.2.2.1
    obtain rfl : L = L' := Option.some.inj (hfL.symm.trans hf)
    exact hn'
  refine wpAny_looks_onW (Around.frames_deeper K.stack) hfL hfl fun h₄ hheld₄ hsm₄ => ?_
  refine wpAny_landsW hheld₄ fun h₅ hheld hsm₅' => ?_
  have hsm₅ := hsm₄.trans hsm₅'
  have hheld' := flyingW_base hB hheld
  have F₅ := F.of_stays hheld'.1 (hsm.trans hsm₅)
  obtain ⟨ob, hob, hobc⟩ := hheld'.there
  refine wpAny_handleBy_cons (codeAny_handlers_test (hname _ _ _ _ F₅ ?_)) (by intro q; cases q)
  obtain ⟨bm, N, nm, qn, bs, hdct, sn, sub, ab, col, dd, k0, k1, k2, k3, k5, mN, hC, hN, hni, TL⟩ := ((own_of_in X T ex q).keeps F₅.keep).obj
  refine wpAny_excMatches_sub_self hC hob hobc (TL.hasType hbase) (codeAny_handlers_suite ?_)
  refine lands_againW hheld fun h₆ hfl₆ hsm₆ => ?_
  have hfl₆' := flyingW_base hB hfl₆
  have F₆ := F.of_stays hfl₆'.1 ((hsm.trans hsm₅).trans hsm₆)
  obtain ⟨oe, ws, hoe, hoec, hoed, hoe0⟩ := hfl₆'.first
  obtain ⟨ot, nt, hot, hotc, hotd⟩ := (htup.of_slots hsm₅).of_slots hsm₆
  have N₆ := News.more F₆ (News.more F₆ News.nil hot (fun es n q => by rw [hotd] at q; cases q) (fresh_of_stays hB hnew)) hoe (fun es n q => by rw [hoed] at q; cases q) hfl₆'.2.1
  exact wpAny_passesOwnAt hE (k h₆ _ F₆ N₆ ⟨oe, ot, ws, nt, .head _, .tail _ (.head _), hoec, hoed, hoe0, hotc, hotd⟩ fun q hq => ⟨hfl₆.1 _ _ (hl q hq).1, (fun z => by have := (hl q hq).1; rw [z, hL] at this; cases this), (hl q hq).2⟩)
end
end Mine
end
section
open PySem PySem.W PySem.Calls PyProof.Rows
set_option maxRecDepth 100000
namespace Mine
theorem none_of_size (h : Heap) : h.get? h.objs.size = none := by
  cases q : h.get? h.objs.size with
  | none => rfl
  | some o => exact absurd (Heap.lt_size q) (Nat.lt_irrefl _)
section
variable {w : World} {A : Around} {I C cS a : Addr} {cenv : Env} {scope : Scope} {pos p1 p2 p3 pt : Pos} {k : Nat} {iter : Expr} {xs xt : Str} {src a0 : Int} {ts : Tok} {oS : Obj} {n g : Nat}
/-- the turns of ((source, target) for target in range(..)) -/
theorem pairTurns (hh : A.handled = none) (hC : cenv.locals = C) (hk : cenv.scope.kind = .function) (hxs : cenv.kindOf xs = some .free) (hxt : cenv.kindOf xt = some .local) (hcl : cenv.cells.lookup xs = some cS)
    (hns : (xs == ("__classdict__" : Str)) = false) (hds : (xs == ("__debug__" : Str)) = false) (hdt : (xt == ("__debug__" : Str)) = false)
    (hoS : oS.data = .cell (some (.int src ts))) (hCI : C ≠ I) (hCS : cS ≠ C) (hIS : cS ≠ I) :
    GenTurns PP w A (.Tuple [.Name xs p1, .Name xt p2] k p3) (.Name xt pt) I cenv [C, I, cS] [C, I] [] n (EdgeP [a, C, I, cS] [C, I] fun i => (src, a0 + i))
      (fun i s => IsRangeIter s.heap I (a0 + (i : Nat) * 1) ((n : Int) - (i : Nat)) 1 ∧ (∃ m, s.heap.Ns C m) ∧ s.heap.get? cS = some oS) where
  frame := fun i s s' st hs => ⟨hs.heap I (by simp) _ st.1, let ⟨m, hm⟩ := st.2.1; ⟨m, hm.at' fun o e => hs.heap C (by simp) o e⟩, hs.heap cS (by simp) _ st.2.2⟩
  live := fun i s st b hb => by
    simp only [List.mem_cons, List.not_mem_nil, or_false] at hb
    rcases hb with rfl | rfl | rfl
    · obtain ⟨m, o, _, _, ho, _⟩ := st.2.1; exact ⟨o, ho⟩
    · exact ⟨_, st.1⟩
    · exact ⟨_, st.2.2⟩
  turn := fun i s hi st hl => by
    obtain ⟨hst, ⟨m, hn⟩, hcell⟩ := st
    refine (Walks.range (prog := PP) (w := w) hh I a0 1 n).item i s _ _ hi hst fun v h₁ tk₁ hP hst₁ hk₁ => ?_
    obtain ⟨t, rfl⟩ := hP
    refine ⟨_, rfl, wpAny_of_eq (rfl : letOwnedTupleGo (.Name xt pt) (.ref I) (.int (a0 + (i : Int) * 1) t) = pure ()) ?_⟩
    have hn₁ : h₁.Ns cenv.locals m := hC ▸ hn.at' fun o e => hk₁ _ o (by simpa using hCI) e
    have hc₁ : h₁.get? cS = some oS := hk₁ _ _ (by simpa using hIS) hcell
    refine wpAny_assign_Name (wpAny_storeName_local hxt hn₁ (fun h₂ hn₂ hs₂ => ?_) (by rw [hk]; rfl))
    rw [hC] at hs₂
    have hc₂ : h₂.get? cS = some oS := (hs₂.2 cS hCS).trans hc₁
    refine wpAny_Tuple (wpAny_items_cons (wpAny_Name (wpAny_loadName_free hk hxs hcl ⟨oS, hc₂, hoS⟩ (wpAny_items_cons (wpAny_Name (wpAny_loadName_local hk hxt hn₂ (if_pos rfl) (wpAny_items_nil ⟨by show 2 ≤ sizeLine; rw [sizeLine_eq]; omega, ?_⟩)) hdt)) hns) hds))
    have e1 : a0 + (i : Int) * 1 = a0 + i := by omega
    have up : ∀ b o, b ∉ [C, I] → s.heap.get? b = some o → h₂.get? b = some o := fun b o hb e => by
      simp only [List.mem_cons, List.not_mem_nil, or_false, not_or] at hb
      exact (hs₂.2 b hb.1).trans (hk₁ b o (by simpa using hb.2) e)
    have hI₂ : h₂.get? I = _ := (hs₂.2 I (Ne.symm hCI)).trans hst₁
    have hC₂ : ∃ o, h₂.get? C = some o := by obtain ⟨o, _, _, ho, _⟩ := hn₂; exact ⟨o, hC ▸ ho⟩
    have htw : h₂.objs.size ∉ [C, I] := by
      simp only [List.mem_cons, List.not_mem_nil, or_false, not_or]
      obtain ⟨o, ho⟩ := hC₂
      exact ⟨fun e => absurd (Heap.lt_size ho) (by rw [← e]; exact Nat.lt_irrefl _), fun e => absurd (Heap.lt_size hI₂) (by rw [← e]; exact Nat.lt_irrefl _)⟩
    refine ⟨⟨Heap.get?_push_of_some _ hI₂, ⟨_, (hC ▸ hn₂.push _)⟩, Heap.get?_push_of_some _ hc₂⟩, ⟨fun b o hb e => Heap.get?_push_of_some _ (up b o hb e), .refl _ _, rfl, rfl⟩, h₂.objs.size, ts, t, none, 0, #[], rfl, ?_, .inr ?_, htw⟩
    · show (h₂.push _).get? _ = _
      rw [Heap.get?_push_size _ rfl, e1]
    · cases q : s.heap.get? h₂.objs.size with
      | none => rfl
      | some o => exact absurd (Heap.lt_size (up _ o htw q)) (Nat.lt_irrefl _)
  last := fun s st hl => (Walks.range (prog := PP) (w := w) hh I a0 1 n).done s _ _ st.1 fun h' tk hk => ⟨rfl, fun b o hb e => hk b o (fun q => hb (.tail _ q)) e, .refl _ _, rfl, rfl⟩
/-- such a generator as a source of edges -/
theorem pairSrc {s₅ : Shared} {sr : List (Addr × Obj)} (hC : cenv.locals = C) (hk : cenv.scope.kind = .function) (hco : cenv.scope.isCoroutine = false) (hxs : cenv.kindOf xs = some .free) (hxt : cenv.kindOf xt = some .local) (hcl : cenv.cells.lookup xs = some cS)
    (hns : (xs == ("__classdict__" : Str)) = false) (hds : (xs == ("__debug__" : Str)) = false) (hdt : (xt == ("__debug__" : Str)) = false)
    (hoS : oS.data = .cell (some (.int src ts))) (hCI : C ≠ I) (hCS : cS ≠ C) (hIS : cS ≠ I) (haC : a ≠ C) (haI : a ≠ I) (haS : a ≠ cS) (hcst : cStatics ≠ C ∧ cStatics ≠ I)
    (hst : IsRangeIter s₅.heap I a0 n 1) (hns₅ : ∃ m, s₅.heap.Ns C m) (hcell : s₅.heap.get? cS = some oS) (hg : s₅.heap.IsGen a g)
    (hgs : s₅.gens[g]? = some (.fresh (cStart (.Tuple [.Name xs p1, .Name xt p2] k p3) (.Name xt pt) iter scope pos I cenv))) (hsr : ∀ b ∈ [a, C, I, cS], ∃ o, (b, o) ∈ sr ∧ s₅.heap.get? b = some o) :
    EdgeSrc w s₅.gens a sr [C, I] n (fun i => (src, a0 + i)) (fun gs => GIn [g] s₅.gens gs) := by
  intro A' E' Q' s₁ hh hd hsr₁ hnl hg₁ h
  have T := pairTurns (w := w) (A := A'.in1.over (cLoop (.Tuple [.Name xs p1, .Name xt p2] k p3) (.Name xt pt) iter scope pos I cenv) []) (n := n) (a0 := a0) (a := a) (p1 := p1) (p2 := p2) (p3 := p3) (pt := pt) (k := k) hh hC hk hxs hxt hcl hns hds hdt hoS hCI hCS hIS
  have st₅ : GenAtI PP w A' true a g [C, I, cS] [C, I] [] n (EdgeP [a, C, I, cS] [C, I] fun i => (src, a0 + i)) 0 s₅ :=
    GenAtI.fresh hco T (fun A'' E Q s st hq => wpAny_pyIter_rangeiter st.1 hq) hg hgs ⟨by simpa using hst, hns₅, hcell⟩
  have W : It PP w A' a (a :: [C, I, cS]) [C, I] (g :: []) n (EdgeP [a, C, I, cS] [C, I] fun i => (src, a0 + i)) (GenAtI PP w A' true a g [C, I, cS] [C, I] [] n (EdgeP [a, C, I, cS] [C, I] fun i => (src, a0 + i))) :=
    It.gen hh (Nat.lt_of_lt_of_le hd (by decide)) (by simp [haC, haI, haS]) (List.not_mem_nil) (by simp) (by simpa using hcst)
  have still : Still (a :: [C, I, cS]) (g :: []) s₅ s₁ := ⟨fun b hb o e => by
    obtain ⟨o', ho', e'⟩ := hsr b hb
    rw [e] at e'; cases e'
    exact hsr₁ _ ho', fun _ _ => by rw [hg₁]⟩
  have st₁ := W.frame _ _ _ st₅ still
  refine wpAny_pyIter_gen st₁.1 (h _ _ _ _ _ _ W (fun b hb => .inl ?_) (fun b hb => .inl hb) W.live (fun gs hgs => hgs) st₁ (fun _ _ e => e) hg₁ rfl rfl)
  obtain ⟨o, ho, _⟩ := hsr b hb
  exact List.mem_map.mpr ⟨_, ho, rfl⟩
end
end Mine
end
section
open PySem PySem.W PySem.Calls PyProof.Rows
set_option maxRecDepth 100000
namespace Mine
abbrev tupOf (u v : Int) (tu tv : Tok) : Obj := ⟨.type "tuple", none, .seq #[.int u tu, .int v tv] 0, #[]⟩
/-- the list's items so far: pairs (a, a + 1), (a + 1, a + 2) .., each a tuple of the ledger -/
def PathIn (a : Int) (ys : List Value) (tups : List (Addr × Obj)) : Prop :=
  ∀ j, j < ys.length → ∃ t tu tv, ys[j]? = some (.ref t) ∧ (t, tupOf (a + j) (a + j + 1) tu tv) ∈ tups
section
variable {prog : Program} {w : World} {A : Around} {E : Value → Shared → Prop} {s : Shared} {h₀ : Heap} {L : Addr} {m : Str → Option Value} {env : Env} {x : Str} {scope : Scope} {cl : List (Str × Addr)} {p1 p2 p3 p4 p5 : Pos} {k5 k3 : Nat}
theorem nodup_push {news : List (Addr × Obj)} {h : Heap} {all : List (Addr × Obj)} (hn : (news.map (·.1)).Nodup) (N : News h₀ L h all) (hs : ∀ p ∈ news, p ∈ all) (o : Obj) : (((h.objs.size, o) :: news).map (·.1)).Nodup := by
  rw [List.map_cons, List.nodup_cons]
  refine ⟨fun hm => ?_, hn⟩
  obtain ⟨p, hp, e⟩ := List.mem_map.mp hm
  exact Nat.lt_irrefl _ (e ▸ Heap.lt_size (N p (hs p hp)).1)
theorem pathComp (hx : scope.names.lookup x = some .local) (hk : scope.kind = .function) (hdx : (x == ("__debug__" : Str)) = false) {a : Int} {news₀ : List (Addr × Obj)} {Fin : List Value → List (Addr × Obj) → Prop} {n : Nat}
    (hF : ∀ ys tups, ys.length = n → PathIn a ys tups → ((tups ++ news₀).map (·.1)).Nodup → Fin ys (tups ++ news₀)) :
    ∀ (k i : Nat) (ys : List Value) (tups : List (Addr × Obj)), i + k = n → ys.length = i → PathIn a ys tups → ((tups ++ news₀).map (·.1)).Nodup →
      LCg.CompRest prog w A h₀ L m env (.Tuple [.Name x p1, .BinOp (.Name x p2) .Add (.Constant (.int 1) k3 p3) p4] k5 p5) x scope cl s (fun _ => True) (fun i v => ∃ t, v = .int (a + (i : Int)) t) Fin k i ys (tups ++ news₀) := by
  intro k
  induction k with
  | zero =>
    intro i ys tups hi hl hp hn
    exact LCg.CompRest.zero (hF ys tups (by omega) hp hn)
  | succ k ih =>
    intro i ys tups hi hl hp hn
    refine LCg.CompRest.succ fun v I oI C oC D m₂ h tk E' hv hC hm F N off hne => ?_
    obtain ⟨t, rfl⟩ := hv
    have hns : h.Ns C m₂ := hC.ns (N (C, oC) (by simp)).1
    have hkx : (compEnvC scope cl C env).kindOf x = some .local := lookup_relabel_local hx
    have hkf : (compEnvC scope cl C env).scope.kind = .function := by simpa [compEnvC, relabel] using hk
    refine wpAny_Tuple (wpAny_items_cons (wpAny_Name (wpAny_loadName_local hkf hkx hns hm (wpAny_items_cons (wpAny_BinOp (wpAny_Name (wpAny_loadName_local hkf hkx hns hm (wpAny_Constant_int ?_)) hdx)))) hdx))
    refine wpAny_add_int (wpAny_items_nil ⟨by show 2 ≤ sizeLine; rw [sizeLine_eq]; omega, ?_⟩)
    have hlt : ∀ p ∈ (I, oI) :: (C, oC) :: (D, LCg.lst ys) :: (tups ++ news₀), p.1 < h.objs.size := fun p hp => Heap.lt_size (N p hp).1
    have hL : L < h.objs.size := F.ns.lt
    refine LCg.CompEnd.intro (all := (h.objs.size, tupOf (a + i) (a + i + 1) t (tk + 1)) :: (I, oI) :: (C, oC) :: (D, LCg.lst ys) :: (tups ++ news₀)) (F.push _) (fun p hp => ?_) (((h.objs.size, tupOf (a + i) (a + i + 1) t (tk + 1)) :: tups) ++ news₀) (fun p hp => ?_) ?_ trivial ?_
    · rcases List.mem_cons.mp hp with rfl | hp
      · refine ⟨Heap.get?_push_size _ rfl, Nat.ne_of_gt hL, ?_⟩
        cases q : h₀.get? h.objs.size with
        | none => rfl
        | some o => exact absurd (Heap.lt_size (F.keep _ _ q)) (Nat.lt_irrefl _)
      · exact ⟨Heap.get?_push_of_some _ (N p hp).1, (N p hp).2⟩
    · simp only [List.mem_cons, List.cons_append] at hp ⊢
      rcases hp with h | h | h | h | h
      · exact .inr (.inl h)
      · exact .inr (.inr (.inl h))
      · exact .inr (.inr (.inr (.inl h)))
      · exact .inl h
      · exact .inr (.inr (.inr (.inr h)))
    · rw [List.cons_append]
      exact ⟨⟨Nat.ne_of_gt (hlt (I, oI) (by simp)), Nat.ne_of_gt (hlt (C, oC) (by simp)), Nat.ne_of_gt (hlt (D, LCg.lst ys) (by simp))⟩, off⟩
    · refine ih (i + 1) (ys ++ [.ref h.objs.size]) _ (by omega) (by simp [hl]) (fun j hj => ?_) ?_
      · rw [List.length_append, List.length_singleton] at hj
        by_cases e : j < ys.length
        · obtain ⟨t', tu, tv, e1, e2⟩ := hp j e
          exact ⟨t', tu, tv, by rw [List.getElem?_append_left e]; exact e1, .tail _ e2⟩
        · have : j = ys.length := by omega
          subst this
          refine ⟨h.objs.size, t, tk + 1, by simp, ?_⟩
          rw [hl]; exact .head _
      · rw [List.cons_append]
        exact nodup_push hn N (fun p hp => by simp only [List.mem_cons]; exact .inr (.inr (.inr hp))) _
end
end Mine
end
section
open PySem PySem.W PySem.Calls PyProof.Rows
set_option maxRecDepth 100000
namespace Mine
section
variable {prog : Program} {w : World} {A : Around} {s : Shared} {env : Env} {h₀ : Heap}
/-- a turn of a loop over a range, its target in a cell, has come to its end -/
def TurnEndRC (h₀ : Heap) (L I cS : Addr) (oI : Obj) (Jn : (Str → Option Value) → List (Addr × Obj) → Array GenState → Prop) (s₁ : Shared) (f : Flow) (s₂ : Shared) : Prop :=
  f = .next ∧ s₂.drawn = s₁.drawn ∧ s₂.os = s₁.os ∧ ∃ m₂ news₂ oc v, Fr h₀ L s₂.heap m₂ ∧ News h₀ L s₂.heap ((I, oI) :: (cS, oc) :: news₂) ∧ oc.data = .cell v ∧ (∀ p ∈ news₂, p.1 ≠ I ∧ p.1 ≠ cS) ∧ Jn m₂ news₂ s₂.gens
theorem codeAny_forLoop_RC {R : Result → Shared → Prop} {x : Str} {px : Pos} {body : List Stmt} {I cS : Addr} {oc : Obj} {v₀ : Option Value} {a : Int} {n : Nat} {m : Str → Option Value} {news : List (Addr × Obj)} (hh : A.handled = none) (hk : env.scope.kind = .function) (hx : env.kindOf x = some .cell)
    (hcl : env.cells.lookup x = some cS) (hLf : env.locals ≠ I) (hfp : h₀.get? I = none) (hcI : cS ≠ I) (hnw : ∀ p ∈ news, p.1 ≠ I ∧ p.1 ≠ cS)
    (hst : IsRangeIter s.heap I a n 1) (F : Fr h₀ env.locals s.heap m) (N : News h₀ env.locals s.heap ((cS, oc) :: news)) (hoc : oc.data = .cell v₀)
    (J : Nat → (Str → Option Value) → List (Addr × Obj) → Array GenState → Prop) (h0 : J 0 m news s.gens)
    (step : ∀ i t m₁ news₁ (s₁ : Shared) oI oc, i < n → oc.data = .cell (some (.int (a + i) t)) → J i m₁ news₁ s₁.gens → (∀ p ∈ news₁, p.1 ≠ I ∧ p.1 ≠ cS) →
      Fr h₀ env.locals s₁.heap m₁ → News h₀ env.locals s₁.heap ((I, oI) :: (cS, oc) :: news₁) →
      wpAny (model prog w) A (execs body env) (TurnEndRC h₀ env.locals I cS oI (J (i + 1)) s₁) (notedBy (model prog w) A env fun e s' => R (.error e) s') s₁)
    (hR : ∀ s' m' news' oc' v', s'.drawn = s.drawn → s'.os = s.os → Fr h₀ env.locals s'.heap m' → News h₀ env.locals s'.heap ((cS, oc') :: news') → oc'.data = .cell v' → (∀ p ∈ news', p.1 ≠ I ∧ p.1 ≠ cS) → J n m' news' s'.gens → R (.ok .next) s') :
    codeAny (model prog w) A (.forLoop (.Name x px) (.ref I) body [] env) R s := by
  have old : ∀ b o, h₀.get? b = some o → b ≠ I := fun b o e hb => by rw [hb, hfp] at e; cases e
  have W := Walks.range (prog := prog) (w := w) hh I a 1 n
  refine codeAny_forLoop
    (fun k s' => ∃ m' news' oc' v' i, IsRangeIter s'.heap I (a + (i : Nat) * 1) ((n : Int) - (i : Nat)) 1 ∧ s'.drawn = s.drawn ∧ s'.os = s.os ∧ Fr h₀ env.locals s'.heap m' ∧ News h₀ env.locals s'.heap ((cS, oc') :: news') ∧ oc'.data = .cell v' ∧ (∀ p ∈ news', p.1 ≠ I ∧ p.1 ≠ cS) ∧ J i m' news' s'.gens ∧ i ≤ n ∧ k = n + 1 - i) ?_ (n + 1)
    ⟨m, news, oc, v₀, 0, by simpa using hst, rfl, rfl, F, N, hoc, hnw, h0, Nat.zero_le _, rfl⟩
  rintro k s' ⟨m', news', oc', v', i, hst', hdr, hos, F', N', hoc', hnw', hJ, hi, rfl⟩
  have next : ∀ h₁ : Heap, (∀ b o, b ∉ [I] → s'.heap.get? b = some o → h₁.get? b = some o) → Fr h₀ env.locals h₁ m' ∧ News h₀ env.locals h₁ ((cS, oc') :: news') := fun h₁ hk₁ =>
    ⟨⟨F'.ns.at' fun o e => hk₁ _ o (by simpa using hLf) e, fun b o e => hk₁ b o (by simpa using old b o e) (F'.keep b o e), F'.above⟩, fun p hp => ⟨hk₁ _ _ (by
      rcases List.mem_cons.mp hp with rfl | hp
      · simpa using hcI
      · simpa using (hnw' p hp).1) (N' p hp).1, (N' p hp).2⟩⟩
  by_cases hlt : i < n
  · refine W.item i _ _ _ hlt hst' fun v h₁ tk₁ hPv hst₁ hk₁ => ?_
    obtain ⟨t, rfl⟩ := hPv
    obtain ⟨F₁, N₁⟩ := next h₁ hk₁
    have hc₁ := N₁ (cS, oc') (.head _)
    refine wpAny_assign_Name (wpAny_storeName_cell hk hx hcl ⟨oc', hc₁.1, hoc'⟩ (fun h₂ hc₂ hs₂ => ?_))
    obtain ⟨oc₂, hoc₂, hd₂⟩ := hc₂
    have F₂ : Fr h₀ env.locals h₂ m' := F₁.change hs₂ hc₁.2.1 hc₁.2.2
    have hst₂ : IsRangeIter h₂ I (a + ((i + 1 : Nat) : Nat) * 1) ((n : Int) - ((i + 1 : Nat) : Nat)) 1 := (hs₂.2 I (Ne.symm hcI)).trans hst₁
    obtain ⟨oI, hoI⟩ : ∃ oI, h₂.get? I = some oI := ⟨_, hst₂⟩
    have e1 : a + (i : Nat) * 1 = a + (i : Int) := by omega
    rw [e1] at hd₂
    refine wpAny_mono (step i t m' news' _ oI oc₂ hlt hd₂ hJ hnw' F₂ (fun p hp => ?_)) (fun f s₃ h₃ => ?_) fun _ _ e => e
    · rcases List.mem_cons.mp hp with rfl | hp
      · exact ⟨hoI, Ne.symm hLf, hfp⟩
      · rcases List.mem_cons.mp hp with rfl | hp
        · exact ⟨hoc₂, hc₁.2⟩
        · exact ⟨(hs₂.2 _ (hnw' p hp).2).trans (N₁ p (.tail _ hp)).1, (N₁ p (.tail _ hp)).2⟩
    obtain ⟨rfl, hdr₃, hos₃, m₂, news₂, oc₃, v₃, F₃, N₃, hoc₃, ha₃, hJ₃⟩ := h₃
    have hI₃ := (N₃ (I, oI) (.head _)).1
    have hst₃ : IsRangeIter s₃.heap I (a + ((i + 1 : Nat) : Nat) * 1) ((n : Int) - ((i + 1 : Nat) : Nat)) 1 := by
      have h5 : h₂.get? I = _ := hst₂
      rw [hoI] at h5
      exact hI₃.trans h5
    exact ⟨n + 1 - (i + 1), by omega, m₂, news₂, oc₃, v₃, i + 1, hst₃, hdr₃.trans hdr, hos₃.trans hos, F₃, fun p hp => N₃ p (.tail _ hp), hoc₃, ha₃, hJ₃, hlt, rfl⟩
  · have hin : i = n := by omega
    subst hin
    refine W.done _ _ _ hst' fun h₁ tk₁ hk₁ => wpAny_execs_nil ?_
    obtain ⟨F₁, N₁⟩ := next h₁ hk₁
    exact hR _ m' news' oc' v' hdr hos F₁ N₁ hoc' hnw' hJ
/-- what stands behind the iter of a for over a range, its target in a cell -/
def LoopAtRC (prog : Program) (w : World) (A : Around) (h₀ : Heap) (env : Env) (cS : Addr) (body : List Stmt) (Q : Flow → Shared → Prop) (E : Value → Shared → Prop) (it : Value) (s₂ : Shared) : Prop :=
  ∃ (I : Addr) (a : Int) (n : Nat) (m : Str → Option Value) (news : List (Addr × Obj)) (oc : Obj) (v₀ : Option Value) (J : Nat → (Str → Option Value) → List (Addr × Obj) → Array GenState → Prop),
    it = .ref I ∧ IsRangeIter s₂.heap I a n 1 ∧ env.locals ≠ I ∧ h₀.get? I = none ∧ cS ≠ I ∧ (∀ p ∈ news, p.1 ≠ I ∧ p.1 ≠ cS) ∧ Fr h₀ env.locals s₂.heap m ∧ News h₀ env.locals s₂.heap ((cS, oc) :: news) ∧ oc.data = .cell v₀ ∧ J 0 m news s₂.gens ∧
    (∀ i t m₁ news₁ (s₁ : Shared) oI oc, i < n → oc.data = .cell (some (.int (a + i) t)) → J i m₁ news₁ s₁.gens → (∀ p ∈ news₁, p.1 ≠ I ∧ p.1 ≠ cS) →
      Fr h₀ env.locals s₁.heap m₁ → News h₀ env.locals s₁.heap ((I, oI) :: (cS, oc) :: news₁) →
      wpAny (model prog w) A (execs body env) (TurnEndRC h₀ env.locals I cS oI (J (i + 1)) s₁) E s₁) ∧
    ∀ s' m' news' oc' v', s'.drawn = s₂.drawn → s'.os = s₂.os → Fr h₀ env.locals s'.heap m' → News h₀ env.locals s'.heap ((cS, oc') :: news') → oc'.data = .cell v' → (∀ p ∈ news', p.1 ≠ I ∧ p.1 ≠ cS) → J n m' news' s'.gens → Q .next s'
theorem For_RC {E : Value → Shared → Prop} {Q : Flow → Shared → Prop} {x : Str} {px pos : Pos} {iter : Expr} {body : List Stmt} {cS : Addr} (h₀ : Heap) (hh : A.handled = none) (hk : env.scope.kind = .function) (hx : env.kindOf x = some .cell)
    (hcl : env.cells.lookup x = some cS)
    (h : wpAny (model prog w) A (eval iter env) (fun xv s₁ => wpAny (model prog w) A (pyIter xv) (fun it s₂ => LoopAtRC prog w A h₀ env cS body Q E it s₂) E s₁) E s)
    (hs : ∀ x, foldedSetIterable iter env x = pure x := by intro _; rfl)
    (hE : PassesOwn (model prog w) A env E := by passes_own) :
    wpAny (model prog w) A (exec (.For (.Name x px) iter body [] pos) env) Q E s := by
  refine wpAny_For (wpAny_mono h (fun xv s₁ h₁ => wpAny_mono h₁ (fun it s₂ h₂ => ?_) fun _ _ e => e) fun _ _ e => e) hs
  obtain ⟨I, a, n, m, news, oc, v₀, J, rfl, hst, hLf, hfp, hcI, hnw, F, N, hoc, h0, step, hQ⟩ := h₂
  exact codeAny_forLoop_RC (R := fun r s' => match r with | .ok f => Q f s' | .error e => cameBackBy (model prog w) A env E e s') hh hk hx hcl hLf hfp hcI hnw hst F N hoc J h0 (by intros; exact wpAny_passesOwn hE (by apply step <;> assumption)) hQ
end
end Mine
end
section
open PySem PySem.W PySem.Calls PyProof.Rows
namespace Mine
local macro_rules | `(tactic| walk_at "ZZ0") => `(tactic| skip)
local macro_rules | `(tactic| walk_at "ZZ1") => `(tactic| skip)
local macro_rules | `(tactic| walk_at "ZZ2") => `(tactic| skip)
local macro_rules | `(tactic| walk_at "ZZ3") => `(tactic| skip)
local macro_rules | `(tactic| walk_at "ZZ4") => `(tactic| skip)
local macro_rules | `(tactic| walk_at "ZZ5") => `(tactic| skip)
local macro_rules | `(tactic| walk_at "ZZ6") => `(tactic| skip)
local macro_rules | `(tactic| walk_at "ZZ7") => `(tactic| skip)
local macro_rules | `(tactic| walk_at "ZZ8") => `(tactic| skip)
local macro_rules | `(tactic| walk_at "ZZ9") => `(tactic| skip)
local macro_rules | `(tactic| walk_at "ZZ10") => `(tactic| skip)
local macro_rules | `(tactic| walk_at "ZZ11") => `(tactic| skip)
local macro_rules | `(tactic| walk_at "ZZ12") => `(tactic| skip)
local macro_rules | `(tactic| walk_at "ZZ13") => `(tactic| skip)
local macro_rules | `(tactic| walk_at "ZZ14") => `(tactic| skip)
local macro_rules | `(tactic| walk_at "ZZ15") => `(tactic| skip)
local macro_rules | `(tactic| walk_at "ZZ16") => `(tactic| skip)
local macro_rules | `(tactic| walk_at "ZZ17") => `(tactic| skip)
local macro_rules | `(tactic| walk_at "ZZ18") => `(tactic| skip)
local macro_rules | `(tactic| walk_at "ZZ19") => `(tactic| skip)
local macro_rules | `(tactic| walk_at "ZZ20") => `(tactic| skip)
local macro_rules | `(tactic| walk_at "ZZ21") => `(tactic| skip)
local macro_rules | `(tactic| walk_at "ZZ22") => `(tactic| skip)
local macro_rules | `(tactic| walk_at "ZZ23") => `(tactic| skip)
local macro_rules | `(tactic| walk_at "ZZ24") => `(tactic| skip)
local macro_rules | `(tactic| walk_at "ZZ25") => `(tactic| skip)
local macro_rules | `(tactic| walk_at "ZZ26") => `(tactic| skip)
local macro_rules | `(tactic| walk_at "ZZ27") => `(tactic| skip)
local macro_rules | `(tactic| walk_at "ZZ28") => `(tactic| skip)
local macro_rules | `(tactic| walk_at "ZZ29") => `(tactic| skip)
theorem rs9 {M : Model} {A : Around} {E : Value → Shared → Prop} {s : Shared} {env : Env} {pos : Pos} {Q : Flow → Shared → Prop} (h : wpAny M A (exec (.Pass pos) env) Q E s) : wpAny M A (exec (.Pass pos) env) Q E s := by
  w_top off
  first | (walk1; fail) | exact h
end Mine
end
section
open PySem PySem.W PySem.Calls PyProof.Rows
set_option maxRecDepth 100000
set_option maxHeartbeats 2000000
set_option rowWalk.seconds 0
namespace Mine
local macro_rules | `(tactic| k_all) => `(tactic| assumption)
local macro_rules | `(tactic| walk_at "callWith ref") => `(tactic| (k_here; k_dflt (first | (refine' callWith_K ?k1 ?k2 ?_; (case k1 => with_reducible assumption); (case k2 => k_is); k_whole) | (refine' callWith_K ?k1 ?k2 ?_; (case k1 => exact Frag.In.keeps (by with_reducible assumption) (Fr.keep (by with_reducible assumption))); (case k2 => k_is); k_whole) | (refine' callWith_K0 ?k1 ?k2 ?_; (case k1 => first | with_reducible assumption | exact Frag.In.keeps (by with_reducible assumption) (Fr.keep (by with_reducible assumption))); (case k2 => k_is); k_whole))))
local macro_rules | `(tactic| walk_at "call ref") => `(tactic| (k_here; k_dflt (refine' valid_spec ?B ?F ?X ?N ?T ?hi ?hl ?_; (case B => k_asm); (case F => k_asm); (case X => k_asm); (case N => k_asm); (case T => k_asm); (case hi => assumption); (case hl => assumption); k_whole; intro h9 tk9 t9 x9 xt9 b9 F9 N9 l9 hb9; (cases b9; (exact nomatch (hb9.mpr (by assumption)))))))
local macro_rules | `(tactic| walk_at "call ref") => `(tactic| (k_here; k_dflt (refine' graph_spec ?B ?F ?X ?N ?T ?_; (case B => k_asm); (case F => k_asm); (case X => k_asm); (case N => k_asm); (case T => k_asm); k_whole; intro h' tk' D' g' d' ga' na' aa' oD' og' on' oa' t1' t2' t3' F' N' hn' ha' ln' la' ll')))
section
theorem sorted_rev_K {prog : Program} {w : World} {A : Around} {E : Value → Shared → Prop} {s : Shared} {h₀ : Heap} {L : Addr} {m : Str → Option Value} {news : List (Addr × Obj)} {l : Addr} {ys : List Value} {ks : List Int} {Q : Value → Shared → Prop}
    (F : Fr h₀ L s.heap m) (N : News h₀ L s.heap news) (hl : s.heap.IsList l ys.toArray) (hc : CarriedAll ys (ks.map PyData.int)) (h64 : ks.length < 64)
    (h : ∀ h' vs' ks' c D', Fr h₀ L h' m → News h₀ L h' ((D', W.listOf vs'.toArray c) :: news) → (∀ p ∈ news, p.1 < D') → IntsAre vs' (List.reverse ks') → ks'.Perm ks → ks'.Pairwise (· ≤ ·) → Q (.ref D') { s with heap := h' }) :
    wpAny (model prog w) A (call (.builtin "sorted") [.ref l] [(Str.ofString "reverse", .bool true)]) Q E s := by
  have hI : IntsAre ys ks := CarriedAll.intsOf (f := id) (by simpa using hc) |> fun z => by simpa using z
  refine sorted_N_rev F N hl hI (by have := hI.length; omega) fun h' vs' ns' e F' N' i' p' o' => ?_
  refine h h' vs' ns'.reverse e _ F' N' (fun p hp => Nat.lt_succ_of_lt (Heap.lt_size (N p hp).1)) (by rw [List.reverse_reverse]; exact i') ((List.reverse_perm _).trans p') ?_
  rw [List.pairwise_reverse]
  exact o'
end
theorem len_KI {prog : Program} {w : World} {A : Around} {E : Value → Shared → Prop} {s : Shared} {h₀ : Heap} {L : Addr} {news : List (Addr × Obj)} {l : Addr} {ys : List Value} {c : Nat} {ks : List Int} {Q : Value → Shared → Prop}
    (N : News h₀ L s.heap news) (hm : (l, W.listOf ys.toArray c) ∈ news) (hi : IntsAre ys ks) (hfit : ks.length < 1000) (h : ∀ t tk, Q (.int ks.length t) { s with toks := tk }) :
    wpAny (model prog w) A (call (.builtin "len") [.ref l]) Q E s := by
  have e := hi.length
  refine len_list (items := ys.toArray) ⟨_, (N _ hm).1, rfl, c, rfl⟩ (by rw [List.size_toArray]; omega) ?_
  rw [List.size_toArray, e]
  exact h _ _
local macro_rules | `(tactic| walk_at "call builtin:len") => `(tactic| (k_here; k_dflt (refine' len_KI ?N ?m ?i ?z ?_; (case N => k_asm); (case m => k_mem); (case i => assumption); (case z => (rw [List.length_reverse, List.Perm.length_eq (by assumption)]; exact Nat.lt_of_le_of_lt (List.length_filter_le _ _) (by omega))); k_whole); intro t' tk'; (try simp only [List.length_reverse])))
local macro_rules | `(tactic| walk_at "eval ListComp") => `(tactic| (k_here; (with_reducible show wpAny _ _ (eval (Expr.ListComp (Expr.Tuple _ _ _) _ _ _) _) _ _ _); k_dflt (refine LCg.ListComp_U (F₀ := by k_asm) (by rfl) (by decide) (by rfl) (by decide) (by rfl) ?_)))
theorem fr_split {h₀ h : Heap} {L : Addr} {x : Str} {v : Value} {m : Str → Option Value} (F : Fr h₀ L h (fun y => if y = x then some v else m y)) : ∃ M, M = m ∧ Fr h₀ L h (fun y => if y = x then some v else M y) := ⟨m, rfl, F⟩
theorem map0 {a b : Str} {v : Value} {M : Str → Option Value} : (fun y => if y = a then some v else M y) = fun z => if z = a then some v else if z = b then M b else M z := by
  funext z
  by_cases h : z = a
  · simp [h]
  · by_cases h' : z = b
    · subst h'; simp [h]
    · simp [h, h']
theorem map1 {a b : Str} {v w : Value} {x u : Option Value} {M : Str → Option Value} : (fun y => if y = a then some v else if y = b then some w else if y = a then x else if y = b then u else M y) = fun z => if z = a then some v else if z = b then some w else M z := by
  funext z
  by_cases h : z = a
  · simp [h]
  · by_cases h' : z = b
    · simp [h, h']
    · simp [h, h']
theorem map2 {asc : List Int} {i : Nat} (hi : i < asc.length) {w : Value} {tk : Tok} {x u : Option Value} {M : Str → Option Value} : (fun y => if y = Str.ofString "last" then some (Value.int (lastAt asc i + (asc[i] - 2)) tk) else if y = Str.ofString "nedges" then some w else if y = Str.ofString "last" then x else if y = Str.ofString "nedges" then u else M y) =
    fun z => if z = Str.ofString "last" then some (.int (lastAt asc (i + 1)) tk) else if z = Str.ofString "nedges" then some w else M z := by
  have e : asc.getD i 0 = asc[i] := by simp [hi]
  rw [lastAt_succ hi, e]
  exact map1
theorem map3 {asc : List Int} {tk : Tok} {M : Str → Option Value} : (fun y => if y = Str.ofString "last" then some (Value.int ((asc.length : Int) + 2) tk) else M y) = fun z => if z = Str.ofString "last" then some (.int (lastAt asc 0) tk) else if z = Str.ofString "nedges" then M (Str.ofString "nedges") else M z := by
  rw [show lastAt asc 0 = (asc.length : Int) + 2 by simp [lastAt]]
  exact map0
/-- the tree that degree_sequence_tree makes of a row: its nodes, each with its neighbours -/
def TreeOf (ns : List Int) (adj : List (Int × List Int)) : Prop :=
  (ns = [0] ∧ adj = [(0, [])]) ∨ (ns ≠ [0] ∧ ∃ asc, asc.Perm (ns.filter fun a => decide (1 < a)) ∧ asc.Pairwise (· ≤ ·) ∧ adj = treeAdj asc)
theorem valid_all {ns : List Int} (h : Valid ns) (h0 : ns ≠ [0]) : (∀ x ∈ ns, 1 ≤ x) ∧ ns.sum = 2 * ns.length - 2 := by
  obtain ⟨h1, h2, h3⟩ := h
  rw [Int.fdiv_eq_ediv_of_nonneg _ (by decide)] at h1
  rw [Int.fmod_eq_emod_of_nonneg _ (by decide)] at h2
  refine ⟨?_, by omega⟩
  rcases h3 with h3 | h3
  · match ns, h3, h0, h1, h2 with
    | [x], _, h0, h1, h2 =>
      simp only [List.sum_cons, List.sum_nil, List.length_cons, List.length_nil] at h1 h2
      exact absurd (by congr 1; omega) h0
  · exact h3
theorem nodup_tail {l1 : List (Addr × Obj)} {g d na aa cD P : Addr} {a b c e f o : Obj} (h : (((g, a) :: (d, b) :: (na, c) :: (aa, e) :: (cD, f) :: (P, o) :: l1).map (·.1)).Nodup) : (((g, a) :: (d, b) :: (na, c) :: (aa, e) :: (P, o) :: l1).map (·.1)).Nodup := by
  simp only [List.map_cons, List.nodup_cons, List.mem_cons, not_or] at h ⊢
  obtain ⟨⟨h1, h2, h3, h4, h5, h6⟩, ⟨h7, h8, h9, h10, h11⟩, ⟨h12, h13, h14, h15⟩, ⟨h16, h17, h18⟩, ⟨h19, h20⟩, h21⟩ := h
  exact ⟨⟨h1, h2, h3, h5, h6⟩, ⟨h7, h8, h10, h11⟩, ⟨h12, h14, h15⟩, ⟨h17, h18⟩, h21⟩
theorem nodup_mid {l1 l2 : List (Addr × Obj)} {P : Addr} {o : Obj} (h : ((l1 ++ (P, o) :: l2).map (·.1)).Nodup) : ∀ p ∈ l1 ++ l2, p.1 ≠ P := by
  intro p hp e
  have h2 : (((P, o) :: (l1 ++ l2)).map (·.1)).Nodup := (List.perm_middle.map _).nodup h
  rw [List.map_cons, List.nodup_cons] at h2
  exact h2.1 (List.mem_map.mpr ⟨p, hp, e⟩)
theorem fr_table {h₀ h h' : Heap} {L P : Addr} {m : Str → Option Value} (F : Fr h₀ L h m) (hk : ∀ b o, b ≠ P → h.get? b = some o → h'.get? b = some o) (hL : L ≠ P) (h0 : h₀.get? P = none) : Fr h₀ L h' m :=
  ⟨F.ns.at' fun o e => hk _ o hL e, fun b o e => hk b o (fun q => by rw [q, h0] at e; cases e) (F.keep b o e), F.above⟩
theorem nodup_lt {a : Addr} {o : Obj} {l : List (Addr × Obj)} (h : ∀ p ∈ l, p.1 < a) (hn : (l.map (·.1)).Nodup) : (((a, o) :: l).map (·.1)).Nodup := by
  rw [List.map_cons, List.nodup_cons]
  exact ⟨fun hm => by obtain ⟨p, hp, e⟩ := List.mem_map.mp hm; exact Nat.lt_irrefl _ (e ▸ h p hp), hn⟩
theorem off1_mem {D : Addr} : ∀ {l : List (Addr × Obj)}, LCg.Off1 D l → ∀ p ∈ l, p.1 ≠ D
  | [], _, _, hp => nomatch hp
  | q :: r, h, p, hp => by
    rcases List.mem_cons.mp hp with rfl | hp
    · exact h.1
    · exact off1_mem h.2 p hp
theorem path_size (k : Nat) : Builtin.Range.rangeSize 0 ((k : Int) + 2 - 1) 1 = ((k + 1 : Nat) : Int) := by
  rw [rangeSize_one, if_pos (by omega)]; omega
/-- the ledger's addresses, one apart from the other -/
theorem led_nodup {g d na aa cD cS : Nat} {og od on oa oD oS : Obj} {tail : List (Addr × Obj)} (h1 : @LT.lt Nat _ d g) (h2 : @LT.lt Nat _ g na) (h3 : @LT.lt Nat _ na aa) (h4 : @LT.lt Nat _ aa cD) (h5 : @LT.lt Nat _ cS d) (h6 : ∀ p ∈ tail, @LT.lt Nat _ p.1 cS) (hn : (tail.map (·.1)).Nodup) :
    ((((g : Addr), og) :: ((d : Addr), od) :: ((na : Addr), on) :: ((aa : Addr), oa) :: ((cD : Addr), oD) :: ((cS : Addr), oS) :: tail).map (·.1)).Nodup := by
  have t : ∀ x : Nat, cS ≤ x → x ∉ tail.map (·.1) := fun x hx hm => by
    obtain ⟨p, hp, e⟩ := List.mem_map.mp hm
    have h' := h6 p hp
    rw [e] at h'
    exact Nat.lt_irrefl _ (Nat.lt_of_lt_of_le h' hx)
  have ne : ∀ {x y : Nat}, x < y → ¬ (x : Addr) = y := fun h e => Nat.lt_irrefl _ (e ▸ h : _)
  have ne' : ∀ {x y : Nat}, y < x → ¬ (x : Addr) = y := fun h e => Nat.lt_irrefl _ (e ▸ h : _)
  have a1 : d < na := Nat.lt_trans h1 h2
  have a2 : d < aa := Nat.lt_trans a1 h3
  have a3 : d < cD := Nat.lt_trans a2 h4
  have a4 : g < aa := Nat.lt_trans h2 h3
  have a5 : g < cD := Nat.lt_trans a4 h4
  have a6 : na < cD := Nat.lt_trans h3 h4
  have b1 : cS < g := Nat.lt_trans h5 h1
  have b2 : cS < na := Nat.lt_trans h5 a1
  have b3 : cS < aa := Nat.lt_trans h5 a2
  have b4 : cS < cD := Nat.lt_trans h5 a3
  simp only [List.map_cons, List.nodup_cons, List.mem_cons, not_or]
  exact ⟨⟨ne' h1, ne h2, ne a4, ne a5, ne' b1, t _ (Nat.le_of_lt b1)⟩, ⟨ne a1, ne a2, ne a3, ne' h5, t _ (Nat.le_of_lt h5)⟩, ⟨ne h3, ne a6, ne' b2, t _ (Nat.le_of_lt b2)⟩, ⟨ne h4, ne' b3, t _ (Nat.le_of_lt b3)⟩, ⟨ne' b4, t _ (Nat.le_of_lt b4)⟩, t _ (Nat.le_refl _), hn⟩
local macro_rules | `(tactic| walk_at "RUNFOR") => `(tactic| repeat' (first | ((fail_if_success (with_reducible show wpAny _ _ (exec (Stmt.For _ _ _ _ _) _) _ _ _)); first | (k_unfold; (try dsimp only)) | walk1 | (dsimp only; walk1) | (leave1; try dsimp only))))
local macro_rules | `(tactic| walk_at "RUNITER") => `(tactic| repeat' (first | ((fail_if_success (with_reducible show wpAny _ _ (pyIter _) _ _ _)); first | (k_unfold; (try dsimp only)) | walk1 | (dsimp only; walk1) | (leave1; try dsimp only))))
local macro_rules | `(tactic| walk_at "eval GeneratorExp") => `(tactic| (k_here; k_dflt (refine' gexp_K (P := 670) (c := 672) (cl := _) ?T ?C rfl rfl rfl rfl (by decide) rfl rfl ?room (by intro _; rfl) ?_; (case T => k_asm); (case C => exact codeHd_of_K (K := hd.heap_39 _) (by k_asm) (by kernel_rfl)); (case room => k_room))))
theorem pop_K {prog : Program} {w : World} {A : Around} {E : Value → Shared → Prop} {s : Shared} {h₀ : Heap} {L D : Addr} {m : Str → Option Value} {n : Nat} {x : Int} {r : List Int} {us : List Value} {R : List (Addr × Obj)} {Q : Value → Shared → Prop}
    (F : Fr h₀ L s.heap m) (N : News h₀ L s.heap ((D, W.listOf us.toArray n) :: R)) (hR : ∀ p ∈ R, p.1 ≠ D) (hi : IntsAre us (List.reverse (x :: r))) (hl : r.length < 1000)
    (h : ∀ us' h' t, Fr h₀ L h' m → News h₀ L h' ((D, W.listOf (List.toArray us') (n + 1)) :: R) → IntsAre us' r.reverse → Q (.int x t) { s with heap := h' }) : wpAny (model prog w) A (call (.builtin "list.pop") [.ref D]) Q E s := by
  have e := hi.length
  rw [List.length_reverse, List.length_cons] at e
  refine kpa_pop F N (.head hR) hi (by omega) (by rw [sizeLine_eq]; omega) fun h' t F' N' h3 => ?_
  have e1 : (List.reverse (x :: r)).getLastD 0 = x := by simp
  have e2 : (List.reverse (x :: r)).dropLast = r.reverse := by simp
  rw [e1]
  exact h _ h' t F' N' (e2 ▸ h3)
local macro_rules | `(tactic| walk_at "call builtin:list.pop") => `(tactic| (k_here; k_dflt (refine' pop_K ?F ?N ?R ?i ?l ?_; (case F => k_asm); (case N => k_asm); (case R => assumption); (case i => assumption); (case l => assumption); k_whole); intro us' h' t' F' N' i'))
local macro_rules | `(tactic| walk_at "RUN504") => `(tactic| repeat' (first | ((fail_if_success (with_reducible show wpAny _ _ (call (Value.ref 504) _) _ _ _)); first | (k_unfold; (try dsimp only)) | walk1 | (dsimp only; walk1) | (leave1; try dsimp only))))
local macro_rules | `(tactic| walk_at "call") => `(tactic| (k_here; k_dflt (show wpAny _ _ (call (Value.builtin "sorted") [Value.ref _] [(Str.ofString "reverse", Value.bool true)]) _ _ _); k_dflt (refine' sorted_rev_K ?F ?N ?l ?i ?z ?_; (case F => k_asm); (case N => k_asm); (case l => assumption); (case i => assumption); (case z => exact Nat.lt_of_le_of_lt (List.length_filter_le _ _) (by omega)); k_whole); intro h' vs' ks' c' D' F' N' l' i' p' o'))
local macro_rules | `(tactic| walk_at "VANONE") => `(tactic| first | assumption | exact (va_stored_new_ne _ _ (by assumption) (by assumption)).trans (by assumption) | rfl)
local macro_rules | `(tactic| walk_at "VALEN") => `(tactic| first | exact Nat.zero_le _ | exact Nat.le_of_ble_eq_true rfl | assumption | exact Nat.le_trans (Nat.le_of_eq (len_stored_new _ _ (by assumption))) (by assumption))
local macro_rules | `(tactic| walk_at "setItem ref int") => `(tactic| (k_here; k_dflt (refine' kda_set (knd := PySem.intKind _ _) ?F ?N ?U ?d (intKind_is _ _ _ _) ?z ?_; (case F => k_asm); (case N => k_asm); (case U => k_updF); (case d => k_asm); (case z => walk_at "VALEN")); intro h' o' F' N' hd'; (try dsimp only at N')))
theorem dst_true {w : World} {mean : ExcName → Option Value} {mg mb : Str → Option Value} {gd : Option (List Code)} {cn : Str} {nms : List (Str × NameKind)} {sg sc : Bool} {mo : List (Str × Const)} {a : Addr} {ccd : Value} {cl : List (Str × Addr)} {outer : List Env} {A₀ : Around} {base h₀ : Heap} {L : Addr} {m : Str → Option Value} {rest : List (Addr × Obj)} {s : Shared}
    {Q E : Value → Shared → Prop} {r : Addr} {vs : List Value} {ns : List Int} {nr : Nat} {ps : Array Value}
    (B : Below A₀ base outer h₀) (F : Fr h₀ L s.heap m) (X : (hd.heap_39 w.params).In h₀) (N : News h₀ L s.heap ((r, listOf vs.toArray nr) :: (670, tabObj ps) :: rest)) (T : Top TP LS mean mg mb h₀) (hi : IntsAre vs ns) (hlen : ns.length ≤ 11) (hv : Valid ns) (hps : TriplesOk ps.toList) (hnd : (((r, listOf vs.toArray nr) :: (670, tabObj ps) :: rest).map (·.1)).Nodup)
    (h : ∀ s' on oa nks aks tl ps' adj g d na aa ga t1 t2 t3, @LT.lt Nat _ 670 d → s'.drawn = s.drawn → s'.os = s.os → (AllBare s.gens → AllBare s'.gens) → Fr h₀ L s'.heap m →
      News h₀ L s'.heap ((g, instObj 629 d) :: (d, dictOf (DEg w t1 t2 t3 ga na aa) 3) :: (na, on) :: (aa, oa) :: (tl ++ ((r, listOf vs.toArray nr) :: (670, tabObj ps') :: rest))) →
      (((g, instObj 629 d) :: (d, dictOf (DEg w t1 t2 t3 ga na aa) 3) :: (na, on) :: (aa, oa) :: (tl ++ ((r, listOf vs.toArray nr) :: (670, tabObj ps') :: rest))).map (·.1)).Nodup →
      on.IsDictOf (PySem.intKind PP w) nks → oa.IsDictOf (PySem.intKind PP w) aks → nks.map (·.1) = adj.map (·.1) → Inn (prog := PP) w tl aks adj → (adj.map (·.1)).Nodup → Closed adj → (na == sysModules) = false → (aa == sysModules) = false → TriplesOk ps'.toList → TreeOf ns adj → Q (.ref g) s') :
    wpAny (model PP w) (ktrTop 302 7 gd cn { kind := .function, names := nms, isGenerator := sg, isCoroutine := sc, more := mo } L a ccd cl outer) (call (.ref 673) [.ref r]) Q E s := by
  refine of_mk ?_
  k_fill
  intro _
  k_steps
  all_goals (try (with_reducible show LCg.CompSrc _ _ _ _ _ _ _ _ _ _ _ _ _ _))
  rotate_left 4
  · rename_i m0 g0 L0 h00 tk00 FG0 B0 X0 T0 l10 oc dcell Ds cc h12 lDs h11 tk5 h9 tk9 t9 x9 xt9 l9 hb9 h10 h9' h8 tk4 h7 tk1 Dg g d ga na aa oDg og on oa t1 t2 t3 hon hoa lna laa ll h6 l1l h5 l1l' hne0 tk3 hDs hvs Dc ys0 h4 tk2 hDc hDcl hys h3 vs' asc cc' cD lD iv pa oa' h2 tk1' t' tk' h1 F1 N1 h2' tkk tr ur vr hR F2 N2 hk2
    have hd670 : @LT.lt Nat _ 670 d := ll.2.2.2.2.2 (670, tabObj ps) (by simp)
    obtain ⟨q1, q2, q3, q4, q5, q6⟩ := ll
    have hrl : ∀ p ∈ (r, listOf vs.toArray nr) :: (670, tabObj ps) :: rest, p.1 < L0 := fun p hp => by
      rcases List.mem_cons.mp hp with rfl | hp
      · exact l10.1
      · rcases List.mem_cons.mp hp with rfl | hp
        · exact l10.2.1
        · exact allLt_mem l10.2.2 p hp
    have NG : News g0 L0 h2' ((g, instObj 629 d) :: (d, dictOf (DEg w t1 t2 t3 ga na aa) 3) :: (na, on) :: (aa, oa) :: (cD, listOf vs'.toArray cc') :: (L0 + 1, oc) :: (r, listOf vs.toArray nr) :: (670, tabObj ps) :: rest) := news_sub N2 (fun p hp => by
      simp only [List.mem_cons] at hp ⊢
      rcases hp with h | h | h | h | h | h | h | h | h
      · exact .inr (.inr (.inr (.inr (.inr (.inr (.inl h))))))
      · exact .inr (.inr (.inr (.inr (.inr (.inr (.inr (.inl h)))))))
      · exact .inr (.inr (.inr (.inl h)))
      · exact .inr (.inr (.inl h))
      · exact .inl h
      · exact .inr (.inr (.inr (.inr (.inr (.inr (.inr (.inr (.inr (.inr (.inl h))))))))))
      · exact .inr (.inr (.inr (.inr (.inr (.inr (.inr (.inr (.inr (.inr (.inr (.inl h)))))))))))
      · exact .inr (.inr (.inr (.inr (.inr (.inr (.inr (.inr (.inr (.inr (.inr (.inr (.inl h))))))))))))
      · exact .inr (.inr (.inr (.inr (.inr (.inr (.inr (.inr (.inr (.inr (.inr (.inr (.inr h)))))))))))))
    have hndG : (((g, instObj 629 d) :: (d, dictOf (DEg w t1 t2 t3 ga na aa) 3) :: (na, on) :: (aa, oa) :: (cD, listOf vs'.toArray cc') :: (L0 + 1, oc) :: (r, listOf vs.toArray nr) :: (670, tabObj ps) :: rest).map (·.1)).Nodup :=
      led_nodup q1 (Nat.lt_trans q2 (Nat.lt_trans q3 q4)) q5 (lD (aa, oa) (by simp)) (q6 (L0 + 1, oc) (by simp)) (fun p hp => Nat.lt_succ_of_lt (hrl p hp)) hnd
    obtain ⟨hall1, hsum⟩ := valid_all hv hne0
    have hasc2 : ∀ x ∈ asc, 2 ≤ x := fun x hx => by
      have := List.mem_filter.mp (pa.mem_iff.mp hx)
      have := of_decide_eq_true this.2
      omega
    have hend := lastAt_end pa hall1 hsum
    have hasc : asc.length ≤ 11 := by rw [pa.length_eq]; exact Nat.le_trans (List.length_filter_le _ _) hlen
    refine LCg.CompSrc.range (n := asc.length + 1) rfl F2 NG hR (small_one (by omega) (by omega) (by omega) (by omega)) (path_size _) (by rw [sizeLine_eq]; omega) fun gg => ?_
    refine pathComp (x := Str.ofString "i") rfl rfl rfl (a := 0) (n := asc.length + 1) (fun ys tups hyl hyp hnt => ?_) (asc.length + 1) 0 [] [] (by omega) rfl (fun j hj => absurd hj (Nat.not_lt_zero _)) hndG
    unfold LCg.FinE
    intro cE hE tkE FE NE o1
    walk_at "RUN504"
    have hnd1 : (((cE, LCg.lst ys) :: (tups ++ ((g, instObj 629 d) :: (d, dictOf (DEg w t1 t2 t3 ga na aa) 3) :: (na, on) :: (aa, oa) :: (cD, listOf vs'.toArray cc') :: (L0 + 1, oc) :: (r, listOf vs.toArray nr) :: (670, tabObj ps) :: rest))).map (·.1)).Nodup := by
      rw [List.map_cons, List.nodup_cons]
      exact ⟨fun hm => by obtain ⟨p, hp, e⟩ := List.mem_map.mp hm; exact off1_mem o1 p hp e, hnt⟩
    have hnd2 : ((((g, instObj 629 d) :: (d, dictOf (DEg w t1 t2 t3 ga na aa) 3) :: (na, on) :: (aa, oa) :: (cD, listOf vs'.toArray cc') :: (L0 + 1, oc) :: (r, listOf vs.toArray nr) :: (670, tabObj ps) :: rest) ++ ((cE, LCg.lst ys) :: tups)).map (·.1)).Nodup :=
      ((List.perm_append_comm (l₁ := (cE, LCg.lst ys) :: tups)).map _).nodup hnd1
    refine addE_spec (g := g) (d := d) (ga := ga) (na := na) (aa := aa) (it := cE) (t1 := t1) (t2 := t2) (t3 := t3) (dn := 3) (on := on) (oa := oa) (tl := []) (rest := (cD, listOf vs'.toArray cc') :: (L0 + 1, oc) :: (r, listOf vs.toArray nr) :: (670, tabObj ps) :: rest) (src := (cE, LCg.lst ys) :: tups) (sr := (cE, LCg.lst ys) :: tups)
      (nks := []) (aks := []) (adj := []) (wr0 := []) (n := asc.length + 1) (ed := fun i => ((i : Int), (i : Int) + 1)) (Go := fun gs => gs = s.gens) (by k_asm) FE X0 (fun p hp => NE p ?_) T0 hnd2 hon hoa rfl .nil List.nodup_nil (fun p hp => nomatch hp) lna laa
      (listSrc (items := ys.toArray) (c := ys.length) (by simp [hyl]) (fun i hi => by obtain ⟨t, tu, tv, e1, e2⟩ := hyp i (by omega); exact ⟨t, tu, tv, none, 0, #[], by simpa using e1, by simpa using e2⟩)) (fun p hp => List.mem_append_right _ hp) (fun b hb => nomatch hb) (by simp only [List.length_nil]; omega)
      (fun i hi => ⟨by show (i : Int) ≠ (i : Int) + 1; omega, path_new i⟩) ?_
    · simp only [List.mem_cons, List.mem_append, List.nil_append] at hp ⊢
      rcases hp with h | h | h | h | h | h
      · exact .inr (.inr (.inl h))
      · exact .inr (.inr (.inr (.inl h)))
      · exact .inr (.inr (.inr (.inr (.inl h))))
      · exact .inr (.inr (.inr (.inr (.inr (.inl h)))))
      · exact .inr (.inr (.inr (.inr (.inr (.inr h)))))
      · rcases h with h | h
        · exact .inl h
        · exact .inr (.inl h)
    intro s1 on1 oa1 nks1 aks1 tl1 hdr1 hos1 hgo1 F3 N3 hnd3 hon1 hoa1 hnk1 hinn1 hkn1 hcl1
    walk_at "RUNFOR"
    refine For_RC (cS := L0 + 1) g0 rfl rfl rfl rfl ?_
    walk_at "RUNITER"
    rename_i h7 F7 N7 h8 tk8 tr8 ur8 vr8 hR8 F8 N8 hk8
    obtain ⟨M, hM, F9⟩ := fr_split F8
    refine iter_R F9 N8 hR8 (by omega) (by omega) (by omega) (by omega) ?_
    intro I hI hst hLI hI0 hnI hIn hkI FI NI
    have eN : ((asc.length : Int) + 2 - 1 - 1).toNat = asc.length := by omega
    rw [eN] at hst
    have hndL : (((g, instObj 629 d) :: (d, dictOf (DEg w t1 t2 t3 ga na aa) 3) :: (na, on1) :: (aa, oa1) :: (tl1 ++ (cD, listOf vs'.toArray cc') :: (L0 + 1, oc) :: (r, listOf vs.toArray nr) :: (670, tabObj ps) :: rest)).map (·.1)).Nodup := hnd3
    have hndP : (((L0 + 1, oc) :: (g, instObj 629 d) :: (d, dictOf (DEg w t1 t2 t3 ga na aa) 3) :: (na, on1) :: (aa, oa1) :: (cD, listOf vs'.toArray cc') :: (670, tabObj ps) :: (tl1 ++ ((r, listOf vs.toArray nr) :: rest))).map (·.1)).Nodup := by
      refine (List.Perm.nodup ?_ hndL)
      rw [List.perm_iff_count]
      intro x
      simp only [List.map_cons, List.map_append, List.count_cons, List.count_append]
      omega
    have adjAt0 : adjAt asc 0 = ((List.range (asc.length + 1)).map fun i : Nat => ((i : Int), (i : Int) + 1)).foldl addE [] := by simp [adjAt, starsAt, pathE]
    obtain ⟨J, hJ⟩ : ∃ J : Nat → (Str → Option Value) → List (Addr × Obj) → Array GenState → Prop, J = fun i m nw gs => ∃ (on2 oa2 : Obj) (nks2 aks2 : List (Int × Value)) (tl2 : List (Addr × Obj)) (vsI : List Value) (cI : Nat) (ps2 : Array Value) (u2 : Option Value) (tl2t : Tok),
      m = (fun z => if z = Str.ofString "last" then some (.int (lastAt asc i) tl2t) else if z = Str.ofString "nedges" then u2 else M z) ∧
      nw = (g, instObj 629 d) :: (d, dictOf (DEg w t1 t2 t3 ga na aa) 3) :: (na, on2) :: (aa, oa2) :: (cD, listOf vsI.toArray cI) :: (670, tabObj ps2) :: (tl2 ++ ((r, listOf vs.toArray nr) :: rest)) ∧ (nw.map (·.1)).Nodup ∧
      on2.IsDictOf (PySem.intKind PP w) nks2 ∧ oa2.IsDictOf (PySem.intKind PP w) aks2 ∧ nks2.map (·.1) = (adjAt asc i).map (·.1) ∧ Inn (prog := PP) w tl2 aks2 (adjAt asc i) ∧ ((adjAt asc i).map (·.1)).Nodup ∧ Closed (adjAt asc i) ∧
      IntsAre vsI (asc.drop i).reverse ∧ TriplesOk ps2.toList ∧ (AllBare s.gens → AllBare gs) := ⟨_, rfl⟩
    refine ⟨I, 1, asc.length, _, (g, instObj 629 d) :: (d, dictOf (DEg w t1 t2 t3 ga na aa) 3) :: (na, on1) :: (aa, oa1) :: (cD, listOf vs'.toArray cc') :: (670, tabObj ps) :: (tl1 ++ ((r, listOf vs.toArray nr) :: rest)), oc, _, J, rfl, hst, hLI, hI0, ?_, ?_, FI, ?_, dcell, ?_, ?_, ?_⟩
    · exact hnI (L0 + 1, oc) (by simp)
    · intro p hp
      have hm1 : p ∈ (g, instObj 629 d) :: (d, dictOf (DEg w t1 t2 t3 ga na aa) 3) :: (na, on1) :: (aa, oa1) :: (tl1 ++ (cD, listOf vs'.toArray cc') :: (L0 + 1, oc) :: (r, listOf vs.toArray nr) :: (670, tabObj ps) :: rest) := by
        simp only [List.mem_cons, List.mem_append] at hp ⊢
        rcases hp with h | h | h | h | h | h | h | h | h <;> simp only [h, true_or, or_true]
      refine ⟨hnI p hm1, fun e => ?_⟩
      rw [List.map_cons, List.nodup_cons] at hndP
      exact hndP.1 (List.mem_map.mpr ⟨p, hp, e⟩)
    · intro p hp
      refine NI p ?_
      simp only [List.mem_cons, List.mem_append] at hp ⊢
      rcases hp with h | h | h | h | h | h | h | h | h | h <;> simp only [h, true_or, or_true]
    · subst hJ
      refine ⟨on1, oa1, nks1, aks1, tl1, vs', cc', ps, M (Str.ofString "nedges"), _, map3, rfl, ?_, hon1, hoa1, ?_, ?_, ?_, ?_, ?_, hps, fun hb => by rw [show s1.gens = s.gens from hgo1]; exact hb⟩
      · rw [List.map_cons, List.nodup_cons] at hndP
        exact hndP.2
      · rw [adjAt0]; exact hnk1
      · rw [adjAt0]; exact hinn1
      · rw [adjAt0]; exact hkn1
      · rw [adjAt0]; exact hcl1
      · exact iv
    · have hIc : (L0 + 1 : Nat) ≠ I := hnI (L0 + 1, oc) (by simp)
      subst hM
      subst hJ
      intro i t m₁ news₁ s₂ oI oc2 hi hoc2 hJ hnw2 F6 N6
      obtain ⟨on2, oa2, nks2, aks2, tl2, vsI, cI, ps2, u2, tl2t, rfl, rfl, hnd6, hon2, hoa2, hnk2, hinn2, hkn2, hcl2, hiv2, hps2, hgs2⟩ := hJ
      rw [List.drop_eq_getElem_cons hi] at hiv2
      obtain ⟨R, hRdef⟩ : ∃ R, R = (I, oI) :: (L0 + 1, oc2) :: (na, on2) :: (aa, oa2) :: (670, tabObj ps2) :: (tl2 ++ ((r, listOf vs.toArray nr) :: rest)) := ⟨_, rfl⟩
      have hcR : ∀ p ∈ (g, instObj 629 d) :: (d, dictOf (DEg w t1 t2 t3 ga na aa) 3) :: R, p.1 ≠ cD := by
        have hc := nodup_mid (l1 := [(g, instObj 629 d), (d, dictOf (DEg w t1 t2 t3 ga na aa) 3), (na, on2), (aa, oa2)]) hnd6
        have hcn := hnw2 (cD, listOf vsI.toArray cI) (by simp)
        intro p hp
        rw [hRdef] at hp
        simp only [List.mem_cons] at hp
        rcases hp with h | h | h | h | h | h | h | h
        · rw [h]; exact hc (g, instObj 629 d) (by simp)
        · rw [h]; exact hc (d, dictOf (DEg w t1 t2 t3 ga na aa) 3) (by simp)
        · rw [h]; exact Ne.symm hcn.1
        · rw [h]; exact Ne.symm hcn.2
        · rw [h]; exact hc (na, on2) (by simp)
        · rw [h]; exact hc (aa, oa2) (by simp)
        · rw [h]; exact hc (670, tabObj ps2) (by simp)
        · exact hc p (List.mem_append_right _ (.tail _ h))
      have N9 : News g0 L0 s₂.heap ((cD, listOf vsI.toArray cI) :: (g, instObj 629 d) :: (d, dictOf (DEg w t1 t2 t3 ga na aa) 3) :: R) := by
        intro p hp
        refine N6 p ?_
        rw [hRdef] at hp
        simp only [List.mem_cons, List.mem_append] at hp ⊢
        rcases hp with h | h | h | h | h | h | h | h | h | h | h <;> simp only [h, true_or, or_true]
      have hlr : (asc.drop (i + 1)).length < 1000 := by rw [List.length_drop]; omega
      clear N6 hnI hkI NI FI F9 N8 F8 hk8 F7 N7
      walk_at "RUN504"
      rename_i hi9 h89 h79 us3 h39 t39 F39 N39 hiv3 h49 F49 N49 h59 tk59 tr5 ur5 vr5 hR5 F5 N5 hk59
      have hgetD : asc.getD i 0 = asc[i] := by simp [hi]
      have hx2 : 2 ≤ asc[i] := hasc2 _ (List.getElem_mem hi)
      obtain ⟨hkey, hlow⟩ := adjAt_keys hasc2 i (Nat.le_of_lt hi)
      have hup : lastAt asc (i + 1) ≤ 11 := by
        have h1 := lastAt_mono hasc2 (asc.length - (i + 1)) (i + 1) (by omega)
        rw [show i + 1 + (asc.length - (i + 1)) = asc.length by omega, hend] at h1
        omega
      rw [lastAt_succ hi, hgetD] at hup
      have hgl : (g, instObj 629 d) ∈ ((cD, listOf us3.toArray (cI + 1)) :: (g, instObj 629 d) :: (d, dictOf (DEg w t1 t2 t3 ga na aa) 3) :: R) := by simp
      refine iter_R F5 N5 hR5 (by omega) (by omega) (by omega) (by omega) ?_
      intro I2 hI2 hst2 hLI2 hI20 hnI2 hIn2 hkI2 FI2 NI2
      have eN2 : (lastAt asc i + (asc[i] - 2) - lastAt asc i).toNat = (asc[i] - 2).toNat := by congr 1; omega
      rw [eN2] at hst2
      have hm670 : (670, tabObj ps2) ∈ R := by rw [hRdef]; simp
      refine ⟨I2, L0, _, ps2, rfl, FI2, (NI2 (670, tabObj ps2) (by simp [hm670])).1, hps2, (NI2 (670, tabObj ps2) (by simp [hm670])).2.2, ?_⟩
      intro code C a5 ps5 h5 tk5 hk5 hP5 hT5 hns5 hg5 hlt5 hCa5
      have h670 := nodup_mid (l1 := [(g, instObj 629 d), (d, dictOf (DEg w t1 t2 t3 ga na aa) 3), (na, on2), (aa, oa2), (cD, listOf vsI.toArray cI)]) hnd6
      have h670' := hnw2 (670, tabObj ps2) (by simp)
      have hL670 : L0 ≠ 670 := Nat.ne_of_gt l10.2.1
      have FG5 := fr_table FI2 hk5 hL670 (NI2 (670, tabObj ps2) (by simp [hm670])).2.2
      have NG5 : News g0 L0 h5 ((cD, listOf us3.toArray (cI + 1)) :: (g, instObj 629 d) :: (d, dictOf (DEg w t1 t2 t3 ga na aa) 3) :: (670, tabObj ps5) :: (I, oI) :: (L0 + 1, oc2) :: (na, on2) :: (aa, oa2) :: (tl2 ++ ((r, listOf vs.toArray nr) :: rest))) := fun p hp => by
        by_cases e : p = (670, tabObj ps5)
        · subst e
          exact ⟨hP5, Ne.symm hL670, (NI2 (670, tabObj ps2) (by simp [hm670])).2.2⟩
        · have hp2 : p ∈ (cD, listOf us3.toArray (cI + 1)) :: (g, instObj 629 d) :: (d, dictOf (DEg w t1 t2 t3 ga na aa) 3) :: R := by
            rw [hRdef]
            simp only [List.mem_cons] at hp ⊢
            rcases hp with h | h | h | h | h | h | h | h | h
            · exact .inl h
            · exact .inr (.inl h)
            · exact .inr (.inr (.inl h))
            · exact absurd h e
            · exact .inr (.inr (.inr (.inl h)))
            · exact .inr (.inr (.inr (.inr (.inl h))))
            · exact .inr (.inr (.inr (.inr (.inr (.inl h)))))
            · exact .inr (.inr (.inr (.inr (.inr (.inr (.inl h))))))
            · exact .inr (.inr (.inr (.inr (.inr (.inr (.inr (.inr h)))))))
          have hne : p.1 ≠ 670 := by
            simp only [List.mem_cons] at hp
            rcases hp with h | h | h | h | h | h | h | h | h
            · rw [h]; exact h670 (cD, listOf vsI.toArray cI) (by simp)
            · rw [h]; exact h670 (g, instObj 629 d) (by simp)
            · rw [h]; exact h670 (d, dictOf (DEg w t1 t2 t3 ga na aa) 3) (by simp)
            · exact absurd h e
            · rw [h]; exact Ne.symm h670'.1
            · rw [h]; exact Ne.symm h670'.2
            · rw [h]; exact h670 (na, on2) (by simp)
            · rw [h]; exact h670 (aa, oa2) (by simp)
            · exact h670 p (List.mem_append_right _ h)
          exact ⟨hk5 _ _ hne (NI2 p hp2).1, (NI2 p hp2).2⟩
      have hI2ne : I2 ≠ 670 := fun q => hnI2 (670, tabObj ps2) (by simp [hm670]) q.symm
      have hst5 : IsRangeIter h5 I2 (lastAt asc i) (((asc[i] - 2).toNat : Nat) : Int) 1 := hk5 _ _ hI2ne hst2
      have hlt5' : ∀ p ∈ (cD, listOf us3.toArray (cI + 1)) :: (g, instObj 629 d) :: (d, dictOf (DEg w t1 t2 t3 ga na aa) 3) :: R, p.1 < C := fun p hp => hlt5 _ _ (NI2 p hp).1
      have hI2C : I2 < C := hlt5 _ _ hst2
      have hI2none : g0.get? I2 = none := hI20
      have hI2led : ∀ p ∈ (cD, listOf us3.toArray (cI + 1)) :: (g, instObj 629 d) :: (d, dictOf (DEg w t1 t2 t3 ga na aa) 3) :: R, p.1 ≠ I2 := hnI2
      obtain ⟨oC5, hoC5, -⟩ := LCg.ns_obj hns5
      obtain ⟨oa5, hoa5⟩ : ∃ o, h5.get? a5 = some o := by obtain ⟨o, _, _, ho, _⟩ := hg5; exact ⟨o, ho⟩
      have hL0C : L0 < C := by obtain ⟨oL, _, _, hL, _⟩ := FI2.ns; exact hlt5 L0 oL hL
      have hg0C : ∀ x, C ≤ x → g0.get? x = none := fun x hx => by
        cases q : g0.get? x with
        | none => rfl
        | some o => exact absurd (hlt5 _ _ (FI2.keep _ _ q)) (Nat.not_lt.mpr hx)
      clear NI2 FI2 N5 F5 N49 F49 N39 F39 hkI2 hk59
      walk_at "RUN504"
      have hnd7 : (((a5, oa5) :: (C, oC5) :: (I2, rgIt (lastAt asc i) (((asc[i] - 2).toNat : Nat) : Int) 1) :: (I, oI) :: (L0 + 1, oc2) :: (g, instObj 629 d) :: (d, dictOf (DEg w t1 t2 t3 ga na aa) 3) :: (na, on2) :: (aa, oa2) :: (cD, listOf vsI.toArray cI) :: (670, tabObj ps2) :: (tl2 ++ ((r, listOf vs.toArray nr) :: rest))).map (·.1)).Nodup := by
        have hall : ∀ p ∈ (I, oI) :: (L0 + 1, oc2) :: (g, instObj 629 d) :: (d, dictOf (DEg w t1 t2 t3 ga na aa) 3) :: (na, on2) :: (aa, oa2) :: (cD, listOf vsI.toArray cI) :: (670, tabObj ps2) :: (tl2 ++ ((r, listOf vs.toArray nr) :: rest)),
            ∃ q ∈ (cD, listOf us3.toArray (cI + 1)) :: (g, instObj 629 d) :: (d, dictOf (DEg w t1 t2 t3 ga na aa) 3) :: R, q.1 = p.1 := fun p hp => by
          rw [hRdef]
          simp only [List.mem_cons] at hp
          rcases hp with h | h | h | h | h | h | h | h | h
          · exact ⟨(I, oI), by simp, by rw [h]⟩
          · exact ⟨(L0 + 1, oc2), by simp, by rw [h]⟩
          · exact ⟨(g, instObj 629 d), by simp, by rw [h]⟩
          · exact ⟨(d, dictOf (DEg w t1 t2 t3 ga na aa) 3), by simp, by rw [h]⟩
          · exact ⟨(na, on2), by simp, by rw [h]⟩
          · exact ⟨(aa, oa2), by simp, by rw [h]⟩
          · exact ⟨(cD, listOf us3.toArray (cI + 1)), by simp, by rw [h]⟩
          · exact ⟨(670, tabObj ps2), by simp, by rw [h]⟩
          · exact ⟨p, by simp only [List.mem_cons]; exact .inr (.inr (.inr (.inr (.inr (.inr (.inr (.inr h))))))), rfl⟩
        refine nodup_lt (fun p hp => ?_) (nodup_lt (fun p hp => ?_) ?_)
        · rcases List.mem_cons.mp hp with rfl | hp
          · exact hCa5
          · rcases List.mem_cons.mp hp with rfl | hp
            · exact Nat.lt_trans hI2C hCa5
            · obtain ⟨q, hq, e⟩ := hall p hp
              exact e ▸ Nat.lt_trans (hlt5' q hq) hCa5
        · rcases List.mem_cons.mp hp with rfl | hp
          · exact hI2C
          · obtain ⟨q, hq, e⟩ := hall p hp
            exact e ▸ hlt5' q hq
        · rw [List.map_cons, List.nodup_cons]
          refine ⟨fun hm => ?_, ?_⟩
          · obtain ⟨p, hp, e⟩ := List.mem_map.mp hm
            obtain ⟨q, hq, e'⟩ := hall p hp
            exact hI2led q hq (e'.trans e)
          · rw [List.map_cons, List.nodup_cons]
            refine ⟨fun hm => ?_, ?_⟩
            · obtain ⟨p, hp, e⟩ := List.mem_map.mp hm
              rcases List.mem_cons.mp hp with rfl | hp
              · exact hIc e
              · exact (hnw2 p hp).1 e
            · rw [List.map_cons, List.nodup_cons]
              exact ⟨fun hm => by obtain ⟨p, hp, e⟩ := List.mem_map.mp hm; exact (hnw2 p hp).2 e, hnd6⟩
      have hK : ((lastAt asc i).toNat : Int) = lastAt asc i := by omega
      refine addE_spec (g := g) (d := d) (ga := ga) (na := na) (aa := aa) (it := a5) (t1 := t1) (t2 := t2) (t3 := t3) (dn := 3) (on := on2) (oa := oa2) (tl := tl2) (rest := (cD, listOf us3.toArray (cI + 1)) :: (670, tabObj ps5) :: (I, oI) :: (L0 + 1, oc2) :: (r, listOf vs.toArray nr) :: rest)
        (src := (a5, oa5) :: (C, oC5) :: (I2, rgIt (lastAt asc i) (((asc[i] - 2).toNat : Nat) : Int) 1) :: []) (sr := (a5, oa5) :: (C, oC5) :: (I2, rgIt (lastAt asc i) (((asc[i] - 2).toNat : Nat) : Int) 1) :: (L0 + 1, oc2) :: [])
        (nks := nks2) (aks := aks2) (adj := adjAt asc i) (wr0 := [C, I2]) (n := (asc[i] - 2).toNat) (ed := fun j => (1 + (i : Int), lastAt asc i + (j : Int))) (Go := fun gs => GIn [s₂.gens.size] _ gs) (by k_asm) FG5 X0 ?N T0 ?hnd hon2 hoa2 hnk2 hinn2 hkn2 hcl2 lna laa
        (pairSrc (s₅ := Shared.mk h5 _ s₂.drawn tk5 s₂.os) (I := I2) (cS := L0 + 1) (C := C) (a := a5) (oS := oc2) rfl rfl rfl rfl rfl rfl (by decide) (by decide) (by decide) hoc2 (Nat.ne_of_gt hI2C) ?c1 ?c2 (Nat.ne_of_gt hCa5) (Nat.ne_of_gt (Nat.lt_trans hI2C hCa5)) ?c3 ?c4 hst5 ⟨_, hns5⟩ ?c5 hg5 (Array.getElem?_push_size ..) ?c6)
        ?s1 (fun b hb => by simp only [List.mem_cons, List.not_mem_nil, or_false] at hb; rcases hb with rfl | rfl <;> simp) ?sz ?ed ?post
      case post =>
        intro s6 on6 oa6 nks6 aks6 tl6 hdr6 hos6 hgo6 F69 N69 hnd69 hon6 hoa6 hnk6 hinn6 hkn6 hcl6
        walk_at "RUN504"
        rename_i hz Fz Nz
        have hadj : ((List.range (asc[i] - 2).toNat).map fun j : Nat => (1 + (i : Int), lastAt asc i + (j : Int))).foldl addE (adjAt asc i) = adjAt asc (i + 1) := by
          rw [adjAt_succ, hgetD, Int.add_comm (i : Int) 1]; rfl
        rw [hadj] at hnk6 hinn6 hkn6 hcl6
        have hnd6' : (((I, oI) :: (L0 + 1, oc2) :: (g, instObj 629 d) :: (d, dictOf (DEg w t1 t2 t3 ga na aa) 3) :: (na, on6) :: (aa, oa6) :: (cD, listOf us3.toArray (cI + 1)) :: (670, tabObj ps5) :: (tl6 ++ ((r, listOf vs.toArray nr) :: rest))).map (·.1)).Nodup := by
          refine (List.Perm.nodup ?_ hnd69)
          rw [List.perm_iff_count]
          intro x
          simp only [List.map_cons, List.map_append, List.count_cons, List.count_append, List.cons_append]
          omega
        refine ⟨rfl, hdr6, hos6, _, (g, instObj 629 d) :: (d, dictOf (DEg w t1 t2 t3 ga na aa) 3) :: (na, on6) :: (aa, oa6) :: (cD, listOf us3.toArray (cI + 1)) :: (670, tabObj ps5) :: (tl6 ++ ((r, listOf vs.toArray nr) :: rest)), oc2, _, Fz, fun p hp => Nz p ?_, hoc2, ?_,
          on6, oa6, nks6, aks6, tl6, us3, cI + 1, ps5, _, _, map2 hi, rfl, ?_, hon6, hoa6, hnk6, hinn6, hkn6, hcl6, hiv3, hT5, fun hb => hgo6.bare ((hgs2 hb).push rfl)⟩
        · simp only [List.mem_cons, List.mem_append] at hp ⊢
          rcases hp with h | h | h | h | h | h | h | h | h | h | h <;> simp only [h, true_or, or_true]
        · rw [List.map_cons, List.map_cons, List.nodup_cons, List.nodup_cons] at hnd6'
          intro p hp
          refine ⟨fun e => hnd6'.1 (.tail _ (List.mem_map.mpr ⟨p, hp, e⟩)), fun e => hnd6'.2.1 (List.mem_map.mpr ⟨p, hp, e⟩)⟩
        · rw [List.map_cons, List.map_cons, List.nodup_cons, List.nodup_cons] at hnd6'
          exact hnd6'.2.2
      case c1 =>
        intro e
        have := hlt5' (L0 + 1, oc2) (by rw [hRdef]; simp)
        exact Nat.lt_irrefl _ (e ▸ this)
      case c2 => exact fun e => hI2led (L0 + 1, oc2) (by rw [hRdef]; simp) e
      case c3 =>
        intro e
        have := Nat.lt_trans (hlt5' (L0 + 1, oc2) (by rw [hRdef]; simp)) hCa5
        exact Nat.lt_irrefl _ (e ▸ this)
      case c4 =>
        obtain ⟨mc, ⟨oS, _, _, hS, _⟩, _⟩ := Top.nolimit T0
        exact ⟨fun e => (by rw [e, hg0C C (Nat.le_refl _)] at hS; cases hS), fun e => (by rw [e, hI2none] at hS; cases hS)⟩
      case c5 => exact (NG5 (L0 + 1, oc2) (by simp)).1
      case c6 =>
        intro b hb
        simp only [List.mem_cons, List.not_mem_nil, or_false] at hb
        rcases hb with rfl | rfl | rfl | rfl
        · exact ⟨oa5, by simp, hoa5⟩
        · exact ⟨oC5, by simp, hoC5⟩
        · exact ⟨_, by simp, hst5⟩
        · exact ⟨oc2, by simp, (NG5 (L0 + 1, oc2) (by simp)).1⟩
      case s1 =>
        intro p hp
        simp only [List.mem_cons, List.mem_append, List.not_mem_nil, or_false, List.cons_append] at hp ⊢
        rcases hp with h | h | h | h <;> simp only [h, true_or, or_true]
      case sz =>
        have e := congrArg List.length hkey
        rw [List.length_map] at e
        have e2 : (rk (lastAt asc i).toNat).length = (lastAt asc i).toNat := by simp [rk]
        omega
      case ed =>
        intro j hj
        have hk := star_keys (src := 1 + (i : Int)) hkey (by omega) (by omega) j
        rw [hK] at hk
        refine ⟨by show 1 + (i : Int) ≠ lastAt asc i + (j : Int); omega, fun hm => ?_⟩
        have hm' : lastAt asc i + (j : Int) ∈ rk ((lastAt asc i).toNat + j) := by rw [← hk]; exact hm
        have := mem_rk.mp hm'
        omega
      case hnd =>
        refine (List.Perm.nodup ?_ hnd7)
        rw [List.perm_iff_count]
        intro x
        simp only [List.map_cons, List.map_append, List.map_nil, List.count_cons, List.count_append, List.cons_append, List.count_nil]
        omega
      case N =>
        intro p hp
        simp only [List.mem_cons, List.mem_append, List.not_mem_nil, or_false] at hp
        have hnew : ∀ x o, h5.get? x = some o → C ≤ x → h5.get? x = some o ∧ x ≠ L0 ∧ g0.get? x = none := fun x o e hx => ⟨e, fun q => absurd hL0C (Nat.not_lt.mpr (q ▸ hx)), hg0C x hx⟩
        rcases hp with h | h | h | h | h | (h | h | h | h | h | h) | h | h | h
        all_goals first
          | (refine NG5 p ?_; simp only [List.mem_cons, List.mem_append]; simp only [h, true_or, or_true]; done)
          | (rw [h]; exact hnew _ _ hoa5 (Nat.le_of_lt hCa5))
          | (rw [h]; exact hnew _ _ hoC5 (Nat.le_refl _))
          | (rw [h]; exact ⟨hst5, fun q => hLI2 q.symm, hI2none⟩)
    · intro s9 m9 news9 oc9 v9 hdr9 hos9 F91 N91 hoc9 hnw9 hJ9
      subst hM
      subst hJ
      obtain ⟨on9, oa9, nks9, aks9, tl9, vsI9, cI9, ps9, u9, tl9t, rfl, rfl, hnd9, hon9, hoa9, hnk9, hinn9, hkn9, hcl9, hiv9, hps9, hgs9⟩ := hJ9
      clear N8 F8 hk8 F7 N7 FI NI hkI F9 hnI
      k_steps
      rename_i kF kN kT kX
      refine h s9 on9 oa9 nks9 aks9 tl9 ps9 (treeAdj asc) g d na aa ga t1 t2 t3 hd670 (hdr9.trans hdr1) (hos9.trans hos1) hgs9 kF (fun p hp => kN p ?_) ?_ hon9 hoa9 hnk9 hinn9 hkn9 hcl9 lna laa hps9 (.inr ⟨hne0, asc, pa, oa', rfl⟩)
      · simp only [List.mem_cons, List.mem_append] at hp ⊢
        rcases hp with h | h | h | h | h | h | h | h <;> simp only [h, true_or, or_true]
      · refine (List.Perm.nodup ?_ (nodup_tail hnd9))
        rw [List.perm_iff_count]
        intro x
        simp only [List.map_cons, List.map_append, List.count_cons, List.count_append]
        omega
  · rename_i m0 g0 L0 h00 tk00 FG0 B0 X0 T0 l10 oc dcell Ds cc h12 l12 h11 tk5 h9 tk9 t9 x9 xt9 l9 hb9 h10 h9' h8 tk4 h7 tk1 Dg g d ga na aa oDg og on oa t1 t2 t3 hon hoa lna laa ll h6 lz h5 F5 N5 l5 hz0 tk6 Da oDa gA LA hA tkA loA hsA fsA FGA FA NA BA XA TA lA tkz gz Lz hz FGz Bz Xz Tz dz hz2 oz Fz Nz loz hsz fsz hiz fiz l1z kFz kNz Tcz kXz
    have hd670 : @LT.lt Nat _ 670 d := ll.2.2.2.2.2 (670, tabObj ps) (by simp)
    obtain ⟨q1, q2, q3, q4, q5, q6⟩ := ll
    simp only [List.forall_mem_cons] at q6
    obtain ⟨r1, r2, r3, r4, r5, r6⟩ := q6
    have q1n : @LT.lt Nat _ d g := q1
    have q2n : @LT.lt Nat _ g Dg := q2
    have q3n : @LT.lt Nat _ Dg ga := q3
    have q4n : @LT.lt Nat _ ga na := q4
    have q5n : @LT.lt Nat _ na aa := q5
    have r1n : @LT.lt Nat _ t9 d := r1
    have r2n : @LT.lt Nat _ Ds d := r2
    have r3n : @LT.lt Nat _ (L0 + 1) d := r3
    have r4n : @LT.lt Nat _ r d := r4
    have r5n : @LT.lt Nat _ 670 d := r5
    obtain ⟨b1, b2, b3, b4, b5, b6, b7, b8, b9, b10, b11, b12, b13, b14⟩ := l1z
    obtain ⟨a1, a2, a3, a4, a5, a6, a7, a8, a9, a10, a11, a12, a13⟩ := lA
    obtain ⟨c1, c2, c3, c4, c5, c6, c7, c8, c9, c10, c11, c12⟩ := l5
    have hraa : ∀ p ∈ rest, p.1 ≠ aa := fun p hp => Nat.ne_of_lt (Nat.lt_trans (r6 p hp) (Nat.lt_trans q1 (Nat.lt_trans q2 (Nat.lt_trans q3 (Nat.lt_trans q4 q5)))))
    have hrna : ∀ p ∈ rest, p.1 ≠ na := fun p hp => Nat.ne_of_lt (Nat.lt_trans (r6 p hp) (Nat.lt_trans q1 (Nat.lt_trans q2 (Nat.lt_trans q3 q4))))
    k_dflt (refine' kda_set (knd := PySem.intKind _ _) kFz kNz ?U hoa (intKind_is _ _ _ _) ?z ?_)
    case U => k_updF
    case z => exact Nat.zero_le _
    intro h' o' F' N' hd'
    k_steps
    rename_i h1q onq F1q N1q hdonq tkq hq2 oq2 kvq F2q N2q hdq hfq kF1 kN1 Tc1 kX1 kF2 kN2 Tc2 kX2
    refine h _ onq o' _ _ [(dz, oz)] ps [(0, [])] g d na aa ga t1 t2 t3 hd670 rfl rfl id kF2 (fun p hp => kN2 p ?_) ?_ hdonq hd' (by rw [st_new [] _ rfl]; rfl) (by rw [st_new [] _ rfl]; exact .cons hiz loz .nil) (by simp) (fun p hp x hx => by rw [List.mem_singleton.mp hp] at hx; cases hx) lna laa hps (.inl ⟨hz0, rfl⟩)
    · simp only [List.mem_cons, List.mem_append, List.not_mem_nil, or_false] at hp ⊢
      rcases hp with h | h | h | h | h | h | h | h <;> simp only [h, true_or, or_true]
    · have hrest : ∀ x : Nat, d ≤ x → ∀ p ∈ (r, listOf vs.toArray nr) :: (670, tabObj ps) :: rest, p.1 < x := fun x hx p hp => by
        rcases List.mem_cons.mp hp with rfl | hp
        · exact Nat.lt_of_lt_of_le r4 hx
        · rcases List.mem_cons.mp hp with rfl | hp
          · exact Nat.lt_of_lt_of_le r5 hx
          · exact Nat.lt_of_lt_of_le (r6 p hp) hx
      have z1 : (((d, dictOf (DEg w t1 t2 t3 ga na aa) 3) :: (r, listOf vs.toArray nr) :: (670, tabObj ps) :: rest).map (·.1)).Nodup := nodup_lt (hrest d (Nat.le_refl _)) hnd
      have z2 : (((g, instObj 629 d) :: (d, dictOf (DEg w t1 t2 t3 ga na aa) 3) :: (r, listOf vs.toArray nr) :: (670, tabObj ps) :: rest).map (·.1)).Nodup := nodup_lt (fun p hp => by
        rcases List.mem_cons.mp hp with rfl | hp
        · exact q1
        · exact hrest g (Nat.le_of_lt q1) p hp) z1
      have z3 : (((na, onq) :: (g, instObj 629 d) :: (d, dictOf (DEg w t1 t2 t3 ga na aa) 3) :: (r, listOf vs.toArray nr) :: (670, tabObj ps) :: rest).map (·.1)).Nodup := nodup_lt (fun p hp => by
        have gn : @LT.lt Nat _ g na := by omega
        rcases List.mem_cons.mp hp with rfl | hp
        · exact gn
        · rcases List.mem_cons.mp hp with rfl | hp
          · exact Nat.lt_trans q1 gn
          · exact hrest na (Nat.le_of_lt (Nat.lt_trans q1 gn)) p hp) z2
      have z4 : (((aa, o') :: (na, onq) :: (g, instObj 629 d) :: (d, dictOf (DEg w t1 t2 t3 ga na aa) 3) :: (r, listOf vs.toArray nr) :: (670, tabObj ps) :: rest).map (·.1)).Nodup := nodup_lt (fun p hp => by
        have ga' : @LT.lt Nat _ g aa := by omega
        rcases List.mem_cons.mp hp with rfl | hp
        · exact q5
        · rcases List.mem_cons.mp hp with rfl | hp
          · exact ga'
          · rcases List.mem_cons.mp hp with rfl | hp
            · exact Nat.lt_trans q1 ga'
            · exact hrest aa (Nat.le_of_lt (Nat.lt_trans q1 ga')) p hp) z3
      have z5 : (((dz, oz) :: (aa, o') :: (na, onq) :: (g, instObj 629 d) :: (d, dictOf (DEg w t1 t2 t3 ga na aa) 3) :: (r, listOf vs.toArray nr) :: (670, tabObj ps) :: rest).map (·.1)).Nodup := nodup_lt (fun p hp => by
        rcases List.mem_cons.mp hp with rfl | hp
        · exact b3
        · rcases List.mem_cons.mp hp with rfl | hp
          · exact b4
          · rcases List.mem_cons.mp hp with rfl | hp
            · exact b7
            · rcases List.mem_cons.mp hp with rfl | hp
              · exact b8
              · exact hrest dz (Nat.le_of_lt b8) p hp) z4
      refine (List.Perm.nodup ?_ z5)
      rw [List.perm_iff_count]
      intro x
      simp only [List.map_cons, List.map_append, List.map_nil, List.count_cons, List.count_append, List.cons_append, List.nil_append, List.count_nil]
      omega
  all_goals exact default
end Mine
end
section
open PySem PySem.W PySem.Calls PyProof.Rows
namespace Mine
local macro_rules | `(tactic| walk_at "ZZ0") => `(tactic| skip)
local macro_rules | `(tactic| walk_at "ZZ1") => `(tactic| skip)
local macro_rules | `(tactic| walk_at "ZZ2") => `(tactic| skip)
local macro_rules | `(tactic| walk_at "ZZ3") => `(tactic| skip)
local macro_rules | `(tactic| walk_at "ZZ4") => `(tactic| skip)
local macro_rules | `(tactic| walk_at "ZZ5") => `(tactic| skip)
local macro_rules | `(tactic| walk_at "ZZ6") => `(tactic| skip)
local macro_rules | `(tactic| walk_at "ZZ7") => `(tactic| skip)
local macro_rules | `(tactic| walk_at "ZZ8") => `(tactic| skip)
local macro_rules | `(tactic| walk_at "ZZ9") => `(tactic| skip)
local macro_rules | `(tactic| walk_at "ZZ10") => `(tactic| skip)
local macro_rules | `(tactic| walk_at "ZZ11") => `(tactic| skip)
local macro_rules | `(tactic| walk_at "ZZ12") => `(tactic| skip)
local macro_rules | `(tactic| walk_at "ZZ13") => `(tactic| skip)
local macro_rules | `(tactic| walk_at "ZZ14") => `(tactic| skip)
local macro_rules | `(tactic| walk_at "ZZ15") => `(tactic| skip)
local macro_rules | `(tactic| walk_at "ZZ16") => `(tactic| skip)
local macro_rules | `(tactic| walk_at "ZZ17") => `(tactic| skip)
local macro_rules | `(tactic| walk_at "ZZ18") => `(tactic| skip)
local macro_rules | `(tactic| walk_at "ZZ19") => `(tactic| skip)
local macro_rules | `(tactic| walk_at "ZZ20") => `(tactic| skip)
local macro_rules | `(tactic| walk_at "ZZ21") => `(tactic| skip)
local macro_rules | `(tactic| walk_at "ZZ22") => `(tactic| skip)
local macro_rules | `(tactic| walk_at "ZZ23") => `(tactic| skip)
local macro_rules | `(tactic| walk_at "ZZ24") => `(tactic| skip)
local macro_rules | `(tactic| walk_at "ZZ25") => `(tactic| skip)
local macro_rules | `(tactic| walk_at "ZZ26") => `(tactic| skip)
local macro_rules | `(tactic| walk_at "ZZ27") => `(tactic| skip)
local macro_rules | `(tactic| walk_at "ZZ28") => `(tactic| skip)
local macro_rules | `(tactic| walk_at "ZZ29") => `(tactic| skip)
theorem rs10 {M : Model} {A : Around} {E : Value → Shared → Prop} {s : Shared} {env : Env} {pos : Pos} {Q : Flow → Shared → Prop} (h : wpAny M A (exec (.Pass pos) env) Q E s) : wpAny M A (exec (.Pass pos) env) Q E s := by
  w_top off
  first | (walk1; fail) | exact h
end Mine
end
section
open PySem PySem.W PySem.Calls PyProof.Rows
set_option maxRecDepth 100000
set_option maxHeartbeats 2000000
set_option rowWalk.seconds 0
namespace Mine
local macro_rules | `(tactic| k_all) => `(tactic| assumption)
local macro_rules | `(tactic| walk_at "call builtin:len") => `(tactic| (k_here; (with_reducible show wpAny _ _ (call (Value.builtin "len") [Value.ref _]) _ _ _); k_dflt (refine kda_len (knd := PySem.intKind _ _) (by k_asm) (by k_mem) (by k_asm) (by k_asm) (by omega) ?_)))
local macro_rules | `(tactic| walk_at "getAttr ref") => `(tactic| (k_here; k_dflt (refine' getS_own ?k1 ?k2 ?k3 ?k4 ?k5 ?k6 ?k7 ?k8 ?k9 ?_; (case k1 => k_asm); (case k2 => k_asm); (case k3 => k_inst); (case k4 => k_is); (case k5 => k_is); (case k6 => k_is); (case k7 => k_is); (case k8 => k_get); (case k9 => k_handed); k_whole)))
local macro_rules | `(tactic| walk_at "getMethod ref") => `(tactic| (k_here; k_dflt (first | (refine' methS_inst ?k1 ?k2 ?k3 ?k4 ?k5 ?k6 ?k7 ?_; (case k1 => k_asm); (case k2 => k_asm); (case k3 => k_inst); (case k4 => k_is); (case k5 => k_is); (case k6 => k_is); (case k7 => k_get); k_whole) | (refine' dictS_getm (News.get (by k_asm) (by k_mem)) ?_; k_whole))))
local macro_rules | `(tactic| walk_at "call builtin:dict.get") => `(tactic| (k_here; (with_reducible show wpAny _ _ (call (Value.builtin "dict.get") [Value.ref _, Value.str _ _, _]) _ _ _); k_dflt (refine' dictS_get2 (News.get (by k_asm) (by k_mem)) ?k ?y ?l ?_; (case k => assumption); (case y => assumption); (case l => k_get); k_whole)))
local macro_rules | `(tactic| walk_at "setItem ref str") => `(tactic| (k_here; k_dflt (refine' dictS_set ?F ?N ?U ?k ?l ?z ?_; (case F => k_asm); (case N => k_asm); (case U => k_upd); (case k => assumption); (case l => k_get); (case z => simp); k_whole); intro h' F' N'))
local macro_rules | `(tactic| walk_at "call builtin:hasattr") => `(tactic| (k_here; k_dflt (refine' hasattr_K ?F ?X ?N ?I rfl ?g ?hh ?ha ?c ?l ?cd ?fo ?n ?z ?mo ?_; (case F => k_asm); (case X => k_asm); (case N => k_asm); (case I => k_inst); (case g => k_is); (case hh => k_is); (case ha => k_is); (case c => decide +kernel); (case l => (refine lookS ?_; k_get)); (case cd => k_is); (case fo => decide +kernel); (case n => decide +kernel); (case z => decide +kernel); (case mo => k_is); k_whole); intro h' tk' F' N'))
local macro_rules | `(tactic| walk_at "RUNITER") => `(tactic| repeat' (first | ((fail_if_success (with_reducible show wpAny _ _ (pyIter _) _ _ _)); first | (k_unfold; (try dsimp only)) | walk1 | (dsimp only; walk1) | (leave1; try dsimp only))))
local macro_rules | `(tactic| walk_at "RUNSUM") => `(tactic| repeat' (first | ((fail_if_success (with_reducible show wpAny _ _ (call (.builtin "sum") _) _ _ _)); first | (k_unfold; (try dsimp only)) | walk1 | (dsimp only; walk1) | (leave1; try dsimp only))))
local macro_rules | `(tactic| walk_at "eval GeneratorExp") => `(tactic| (k_here; k_dflt (refine' gexp_K (P := 230) (c := 234) (cl := _) ?T ?C rfl rfl rfl rfl (by decide) rfl rfl ?room (by intro _; rfl) ?_; (case T => k_asm); (case C => exact codeHd_of_K (K := hd.heap_39 _) (by k_asm) (by kernel_rfl)); (case room => k_room))))
/-- generators have been added -/
structure GExt (a b : Array GenState) : Prop where
  size : a.size ≤ b.size
  old : ∀ k, k < a.size → b[k]? = a[k]?
  bare : AllBare a → AllBare b
section
variable {prog : Program} {w : World} {A A₀ : Around} {E : Value → Shared → Prop} {s : Shared} {K : Frag} {C L : Addr} {h₀ base : Heap} {m mg mb : Str → Option Value} {news : List (Addr × Obj)} {p : Program} {loose : List Str} {mean : ExcName → Option Value}
/-- the entry of a function of the text, the caller's frame object kept -/
theorem codeAny_defL {env : Env} {outer : List Env} {R : Result → Shared → Prop} {name qual : Str} {params : Arguments} {body : List Stmt} {scope : Scope} {dV kV doc pm cdv ct oc : Value} {an od : Option Addr} {osl : Array (Option Value)} {f : Addr} {args : Args} {binds : List (Str × Value)}
    (B : Below A₀ base outer h₀) (F : Fr h₀ L s.heap m) (X₀ : K.In h₀) (N : News h₀ L s.heap news) (T : Top p loose mean mg mb h₀) (hA : A.frames = some (env :: outer)) (hf : env.frame = some L) (hke : env.scope.kind = .function)
    (ho : K.lookup f = some ⟨oc, od, .func (fnOf name qual params body scope dV kV doc pm an cdv ct), osl⟩) (hcd : codeIn K cdv qual = true) (hroom : A.depth < recursionLimit)
    (hbind : BindsTo s (fnOf name qual params body scope dV kV doc pm an cdv ct) args binds) (hloc : ∀ y ∈ binds, scope.names.lookup y.1 = some .local)
    (h : ∀ g L' h₁, Fr h₀ L g m → Fr g L' h₁ (fun y => binds.reverse.lookup y) → News g L' h₁ news → Below A base (env :: outer) g → K.In g → Top p loose mean mg mb g → (∀ o, s.heap.get? L = some o → g.get? L = some o) →
      wpAny (model prog w) (A.deeper (envOf qual scope L' f cdv)) (execs body (envOf qual scope L' f cdv))
        (fun fl s' => LeaveK h₀ L m g R (match fl with | .ret v => v | _ => .none) s')
        (fun e s' => wpAny (model prog w) (A.deeper (envOf qual scope L' f cdv)) (leaving (envOf qual scope L' f cdv) e) (fun _ s'' => R (.error e) s'') (fun e' s'' => R (.error e') s'') s')
        { s with heap := h₁, toks := s.toks + binds.length })
    (hco : scope.isCoroutine = false) (hgen : scope.isGenerator = false) (hk : scope.kind = .function) (hcell : ∀ x ∈ scope.names, x.2 ≠ .cell) : codeAny (model prog w) A (.call (.ref f) args) R s := by
  obtain ⟨FG, BG, st, lv⟩ := groundX (R := R) B F N hA hf hke
  have hl := T.nolimit.keeps F.keep
  refine codeAny_call_function hroom ((X₀.keeps F.keep) _ _ ho) rfl hco hgen rfl (codeRec_of (X₀.keeps F.keep) hcd) (hbind _ _ _ _ ?_)
  refine wpAny_newFunctionEnv hcell hloc (fun h₁ hns hsb => ⟨hl.fresh _ hsb, ?_⟩) hk
  have hk₁ : ∀ b o, s.heap.get? b = some o → h₁.get? b = some o := fun b o e => hsb.extBut b o (Nat.ne_of_lt (Heap.lt_size e)) (Heap.get?_push_of_some _ e)
  have hL : ∀ o, s.heap.get? L = some o → (hideAll s.heap (news.map (·.1))).get? L = some o := fun o e => hideAll_get _ e fun q => by
    obtain ⟨p, hp, e⟩ := List.mem_map.mp q
    exact (N p hp).2.1 e
  refine codeAny_func (wpAny_mono (h _ s.heap.objs.size h₁ FG ⟨hns, fun b o e => hk₁ b o (of_hideAll _ e), Nat.le_of_eq (hideAll_size _ _)⟩
    (fun p hp => ⟨hk₁ _ _ (N p hp).1, Nat.ne_of_lt (Heap.lt_size (N p hp).1), hideAll_none _ (List.mem_map_of_mem hp)⟩) BG (X₀.keeps st) (T.keeps st) hL) (fun fl s' hl => lv _ _ hl) fun _ _ y => y)
end
theorem preSum_bound (val : Nat → Int) (c : Int) : ∀ n, (∀ i, i < n → 0 ≤ val i ∧ val i ≤ c) → 0 ≤ preSum val n ∧ preSum val n ≤ c * n
  | 0, _ => ⟨Int.le_refl _, by simp [preSum]⟩
  | n + 1, h => by
    have h1 := preSum_bound val c n fun i hi => h i (Nat.lt_succ_of_lt hi)
    have h2 := h n (Nat.lt_succ_self _)
    have e : c * ((n + 1 : Nat) : Int) = c * n + c := by rw [Int.natCast_add, Int.mul_add]; simp
    rw [e]
    exact ⟨Int.add_nonneg h1.1 h2.1, Int.add_le_add h1.2 h2.2⟩
theorem len_edges {w : World} {mean : ExcName → Option Value} {mg mb : Str → Option Value} {gd : Option (List Code)} {cn : Str} {nms : List (Str × NameKind)} {sg sc : Bool} {mo : List (Str × Const)} {a : Addr} {ccd : Value} {cl : List (Str × Addr)} {outer : List Env} {A₀ : Around} {base h₀ : Heap} {L : Addr} {m : Str → Option Value} {rest : List (Addr × Obj)} {s : Shared}
    {Q E : Value → Shared → Prop} {ps : Array Value} {ev dv aa : Addr} {ta : Tok} {oa : Obj} {aks : List (Int × Value)} {adj : List (Int × List Int)} {tl : List (Addr × Obj)}
    (B : Below A₀ base outer h₀) (F : Fr h₀ L s.heap m) (X : (hd.heap_39 w.params).In h₀) (N : News h₀ L s.heap ((230, tabObj ps) :: (ev, instObj 252 dv) :: (dv, dictOf (DEd w ta aa) 1) :: (aa, oa) :: (tl ++ rest))) (T : Top TP LS mean mg mb h₀)
    (hps : TriplesOk ps.toList) (hoa : oa.IsDictOf (PySem.intKind PP w) aks) (laa : (aa == sysModules) = false) (hinn : Inn (prog := PP) w tl aks adj) (hlen : adj.length ≤ 11) (hcl : Closed adj)
    (h230 : ∀ p ∈ (ev, instObj 252 dv) :: (dv, dictOf (DEd w ta aa) 1) :: (aa, oa) :: (tl ++ rest), p.1 ≠ 230)
    (h : ∀ h' tk gs ps' k t, Fr h₀ L h' m → News h₀ L h' ((230, tabObj ps') :: (ev, instObj 252 dv) :: (dv, dictOf (DEd w ta aa) 1) :: (aa, oa) :: (tl ++ rest)) → TriplesOk ps'.toList → GExt s.gens gs → 0 ≤ k → k ≤ 200 → (∀ o, s.heap.get? L = some o → h'.get? L = some o) →
      Q (.int k t) { heap := h', gens := gs, drawn := s.drawn, toks := tk, os := s.os }) :
    wpAny (model PP w) (ktrTop 302 9 gd cn { kind := .function, names := nms, isGenerator := sg, isCoroutine := sc, more := mo } L a ccd cl outer) (call (.builtin "len") [.ref ev]) Q E s := by
  refine of_mk ?_
  k_fill
  intro _
  refine len_K (C := 252) (f := 235) (ox := instObj 252 dv) (od := some (dictOf (DEd w ta aa) 1)) F X ⟨(N _ (.tail _ (.head _))).1, rfl, rfl, (N _ (.tail _ (.tail _ (.head _)))).1⟩ (by k_is) (by k_is) (wpAny_call ?_)
  refine' codeAny_defL ?k1 ?k2 ?k3 ?k4 ?k5 ?kA ?kF ?kK ?k6 ?k7 ?k8 ?k9 ?kB ?_ ?c2 ?c3 ?c4 ?c5; (case kA => exact rfl); (case kF => exact rfl); (case kK => exact rfl); (case k1 => k_asm); (case k2 => k_asm); (case k3 => k_asm); (case k4 => k_asm); (case k5 => k_asm); (case k6 => k_is); (case k7 => k_is); (case k8 => k_room); (case k9 => first | exact BindsTo.of_eq rfl | exact binds_K (by k_in) rfl (by k_is) rfl rfl rfl | fail "k_enter: no rule for these arguments"); (case c5 => decide); (case kB => exact locs rfl); (case c2 => exact rfl); (case c3 => exact rfl); (case c4 => exact rfl)
  intro g1 L1 h1 FG1 F1 N1 B1 X1 T1 hLg
  walk_at "RUNITER"
  rename_i tk1 g2 L2 h2 FG2 F2 N2 B2 X2 T2 V hV F3 N3 l1 kF kN Tc kX
  clear F1 N1 FG2 F2 N2 B2 X2 T2 F3 N3 Tc kX
  have kF' : Fr g1 L1 hV _ := kF
  have kN' : News g1 L1 hV _ := kN
  clear kF kN
  obtain ⟨ep, hat⟩ := KdkAt.of hoa
  refine wpAny_pyIter_items (knd := PySem.intKind PP w) (d := aa) (kvs := aks) (ep := ep) ⟨_, (kN' (V, _) (.head _)).1, rfl, rfl⟩ (hat.dictAt (kN' (aa, oa) (by simp)).1) ?_
  have hL230 : L1 ≠ 230 := Ne.symm (kN' (230, tabObj ps) (by simp)).2.1
  refine ⟨_, L1, _, ps, rfl, kF'.push _, Heap.get?_push_of_some _ (kN' (230, tabObj ps) (by simp)).1, hps, (kN' (230, tabObj ps) (by simp)).2.2, ?_⟩
  intro code C a5 ps5 h5 tk5 hk5 hP5 hT5 hns5 hg5 hlt5 hCa5
  dsimp only at hk5 hlt5
  have FG5 := fr_table (kF'.push _) hk5 hL230 (kN' (230, tabObj ps) (by simp)).2.2
  have gnone : ∀ x, hV.objs.size ≤ x → g1.get? x = none := fun x hx => by
    cases q : g1.get? x with
    | none => rfl
    | some o => exact absurd (Heap.lt_size (kF'.keep _ _ q)) (Nat.not_lt.mpr hx)
  have hIH : (hV.push { cls := .type "dict_itemiterator", data := .fields #[.none, .bool false, .ref aa, .int 0 0, .int aks.length 0, .int ep 0, .none, .none] }).get? hV.objs.size = some _ := Heap.get?_push_size _ rfl
  have hIC : hV.objs.size < C := hlt5 _ _ hIH
  have h230V : 230 < hV.objs.size := Heap.lt_size (kN' (230, tabObj ps) (by simp)).1
  have hLV : L1 < hV.objs.size := kF'.ns.lt
  have hI5 : h5.get? hV.objs.size = some _ := hk5 _ _ (Nat.ne_of_gt h230V) hIH
  obtain ⟨oC5, hoC5, -⟩ := LCg.ns_obj hns5
  obtain ⟨oa5, hoa5⟩ : ∃ o, h5.get? a5 = some o := by obtain ⟨o, _, _, ho, _⟩ := hg5; exact ⟨o, ho⟩
  have hledV : ∀ p ∈ (ev, instObj 252 dv) :: (dv, dictOf (DEd w ta aa) 1) :: (aa, oa) :: (tl ++ rest), p.1 < hV.objs.size := fun p hp => Heap.lt_size (kN' p (.tail _ (.tail _ hp))).1
  have NG5 : News g1 L1 h5 ((a5, oa5) :: (C, oC5) :: (hV.objs.size, { cls := .type "dict_itemiterator", data := .fields #[.none, .bool false, .ref aa, .int 0 0, .int aks.length 0, .int ep 0, .none, .none] }) :: (230, tabObj ps5) :: (ev, instObj 252 dv) :: (dv, dictOf (DEd w ta aa) 1) :: (aa, oa) :: (tl ++ rest)) := fun p hp => by
    rcases List.mem_cons.mp hp with rfl | hp
    · exact ⟨hoa5, Nat.ne_of_gt (Nat.lt_trans hLV (Nat.lt_trans hIC hCa5)), gnone _ (Nat.le_of_lt (Nat.lt_trans hIC hCa5))⟩
    rcases List.mem_cons.mp hp with rfl | hp
    · exact ⟨hoC5, Nat.ne_of_gt (Nat.lt_trans hLV hIC), gnone _ (Nat.le_of_lt hIC)⟩
    rcases List.mem_cons.mp hp with rfl | hp
    · exact ⟨hI5, Nat.ne_of_gt hLV, gnone _ (Nat.le_refl _)⟩
    rcases List.mem_cons.mp hp with rfl | hp
    · exact ⟨hP5, Ne.symm hL230, (kN' (230, tabObj ps) (by simp)).2.2⟩
    · exact ⟨hk5 _ _ (h230 p hp) (Heap.get?_push_of_some _ (kN' p (.tail _ (.tail _ hp))).1), (kN' p (.tail _ (.tail _ hp))).2⟩
  clear kF' kN' hk5
  walk_at "RUNSUM"
  rename_i h6 F6 N6
  have hg6 : h6.IsGen a5 s.gens.size := let ⟨o, nm, qn, ho, r⟩ := hg5; ⟨o, nm, qn, by rw [hoa5] at ho; cases ho; exact (N6 _ (.head _)).1, r⟩
  have hC6 := (N6 (C, oC5) (by simp)).1
  have hns6 : h6.Ns C _ := hns5.at' fun o e => by rw [hoC5] at e; cases e; exact hC6
  have hI6 := (N6 (hV.objs.size, _) (.tail _ (.tail _ (.head _)))).1
  have ha6 : a5 < h6.objs.size := Heap.lt_size (N6 _ (.head _)).1
  have hcsg : ∃ o, g1.get? cStatics = some o := by obtain ⟨mc, ⟨oS, _, _, hS0, _⟩, _⟩ := Top.nolimit T1; exact ⟨oS, hS0⟩
  have hcsV : cStatics < hV.objs.size := by
    obtain ⟨oS, hS0⟩ := hcsg
    refine Nat.lt_of_not_le fun hx => ?_
    rw [gnone _ hx] at hS0
    cases hS0
  have hsub : ∀ p ∈ (ev, instObj 252 dv) :: (dv, dictOf (DEd w ta aa) 1) :: (aa, oa) :: (tl ++ rest), h6.get? p.1 = some p.2 := fun p hp => (N6 p (.tail _ (.tail _ (.tail _ (.tail _ hp))))).1
  have hIlt5 : hV.objs.size < a5 := Nat.lt_trans hIC hCa5
  refine call_sum_ItX (wpAny_pyIter_gen hg6 ⟨a5, rfl, fun S h3 tk hS hh3 => ?_⟩)
  dsimp only at hS hh3
  have up3 : ∀ b o, h6.get? b = some o → h3.get? b = some o := fun b o e => by rw [hh3]; exact Heap.get?_push_of_some _ e
  have hSn : h6.get? S = none := by
    cases q : h6.get? S with
    | none => rfl
    | some o => exact absurd (Heap.lt_size q) (by rw [hS]; exact Nat.lt_irrefl _)
  have keep3 : ∀ b o, g1.get? b = some o → h3.get? b = some o := fun b o e => up3 b o (F6.keep b o e)
  have haS : a5 < S := by rw [hS]; exact ha6
  have hCS : S ≠ C := Nat.ne_of_gt (Nat.lt_trans hCa5 haS)
  have hIS : S ≠ hV.objs.size := Nat.ne_of_gt (Nat.lt_trans hIlt5 haS)
  have hcw : cStatics ∉ [C, hV.objs.size] := by
    simp only [List.mem_cons, List.not_mem_nil, or_false, not_or]
    exact ⟨Nat.ne_of_lt (Nat.lt_trans hcsV hIC), Nat.ne_of_lt hcsV⟩
  have hCg : g1.get? C = none := gnone _ (Nat.le_of_lt hIC)
  have hSg : g1.get? S = none := gnone _ (Nat.le_of_lt (Nat.lt_trans hIlt5 haS))
  have hlt : ∀ p ∈ (ev, instObj 252 dv) :: (dv, dictOf (DEd w ta aa) 1) :: (aa, oa) :: (tl ++ rest), p.1 ≠ C ∧ p.1 ≠ hV.objs.size ∧ p.1 ≠ S := fun p hp => ⟨Nat.ne_of_lt (Nat.lt_trans (hledV p hp) hIC), Nat.ne_of_lt (hledV p hp), Nat.ne_of_lt (Nat.lt_trans (hledV p hp) (Nat.lt_trans hIlt5 haS))⟩
  refine ⟨a5 + 1, [C, hV.objs.size], [S], [s.gens.size], aks.length, lenVal adj, _, ItX.gen rfl ?room ⟨Nat.lt_succ_self _, ?aw⟩ ?ac List.not_mem_nil ⟨Nat.lt_succ_of_lt (Nat.lt_trans hcsV hIlt5), hcw⟩, List.mem_singleton.mpr rfl, ⟨Nat.lt_succ_of_lt (Nat.lt_trans hcsV hIlt5), hcw⟩, ?cS,
    GenAtX.fresh rfl (lenTurns (h₀ := g1) (oa := oa) (ep := ep) (aa := aa) rfl T1 rfl rfl rfl rfl rfl hoa hinn hcl hlen (Nat.ne_of_gt hIC) hCS hIS ?l1 ?l2 hCg (gnone _ (Nat.le_refl _)) hSg) (fun A'' E Q s st hq => ?self) ?gen (Array.getElem?_push_size ..) ?st, (Top.nolimit T1).keeps keep3, ?post⟩
  case room => k_room
  case aw =>
    simp only [List.mem_cons, List.not_mem_nil, or_false, not_or]
    exact ⟨Nat.ne_of_gt hCa5, Nat.ne_of_gt hIlt5⟩
  case ac => rw [List.mem_singleton]; exact Nat.ne_of_lt haS
  case cS => exact Nat.ne_of_lt (Nat.lt_trans hcsV (Nat.lt_trans hIlt5 haS))
  case l1 => exact hlt (aa, oa) (by simp)
  case l2 => exact fun p hp => hlt p (by simp only [List.mem_cons, List.mem_append]; exact .inr (.inr (.inr (.inl hp))))
  case self => exact let ⟨⟨_, _, hit⟩, _⟩ := st; kcp_self hit hq
  case gen => exact let ⟨o, nm, qn, ho, r⟩ := hg6; ⟨o, nm, qn, up3 _ _ ho, r⟩
  case st =>
    refine ⟨⟨_, _, up3 _ _ hI6⟩, ⟨_, oC5, hns6.at' fun o e => up3 _ _ e, up3 _ _ hC6, ns_notTup hns6 hC6⟩, ?_, fun p hp => up3 _ _ (hsub p (by simp only [List.mem_cons, List.mem_append]; exact .inr (.inr (.inr (.inl hp))))), keep3⟩
    obtain ⟨oA, es, h3', h3''⟩ := hat.dictAt (hsub (aa, oa) (by simp))
    exact ⟨oA, es, up3 _ _ h3', h3''⟩
  case post =>
    rintro ⟨h7, gs7, dr7, tk7, os7⟩ t7 hk7 hgs7 hdr7 hos7
    dsimp only at hk7 hgs7 hdr7 hos7
    subst hdr7; subst hos7
    have k7 : ∀ b o, b ≠ C → b ≠ hV.objs.size → b < a5 + 1 → h6.get? b = some o → h7.get? b = some o := fun b o b1 b2 b3 e => hk7 b o (Nat.ne_of_lt (Nat.lt_of_lt_of_le b3 haS)) (up3 _ _ e) (.inl ⟨b3, by simp [b1, b2]⟩)
    have h1a : ∀ b, b < hV.objs.size → b ≠ C ∧ b ≠ hV.objs.size ∧ b < a5 + 1 := fun b hb => ⟨Nat.ne_of_lt (Nat.lt_trans hb hIC), Nat.ne_of_lt hb, Nat.lt_succ_of_lt (Nat.lt_trans hb hIlt5)⟩
    have F7 : Fr g1 L1 h7 _ := ⟨F6.ns.at' fun o e => k7 _ o (h1a _ hLV).1 (h1a _ hLV).2.1 (h1a _ hLV).2.2 e, fun b o e => by
      have hb : b < hV.objs.size := Nat.lt_of_not_le fun hx => by rw [gnone b hx] at e; cases e
      exact k7 b o (h1a _ hb).1 (h1a _ hb).2.1 (h1a _ hb).2.2 (F6.keep b o e), F6.above⟩
    have N7 : News g1 L1 h7 ((230, tabObj ps5) :: (ev, instObj 252 dv) :: (dv, dictOf (DEd w ta aa) 1) :: (aa, oa) :: (tl ++ rest)) := fun p hp => by
      have hb : p.1 < hV.objs.size := by
        rcases List.mem_cons.mp hp with rfl | hp
        · exact h230V
        · exact hledV p hp
      have hn := N6 p (.tail _ (.tail _ (.tail _ hp)))
      exact ⟨k7 _ _ (h1a _ hb).1 (h1a _ hb).2.1 (h1a _ hb).2.2 hn.1, hn.2⟩
    have hL7 : ∀ o, s.heap.get? L = some o → h7.get? L = some o := fun o e => F7.keep _ o (hLg o e)
    clear F6 N6
    have hval : ∀ i, i < aks.length → 0 ≤ lenVal adj i ∧ lenVal adj i ≤ 12 := fun i hi => by
      obtain ⟨k, x, ox, kvi, ha1, ha2, ha3, ha4, ha5⟩ := hinn.at i (hinn.len ▸ hi)
      have h1 := nbr_len hcl (List.mem_of_getElem? ha2) (dict_keys_nodup ha4)
      unfold lenVal
      rw [ha2]
      dsimp only
      split <;> omega
    have hpb := preSum_bound (lenVal adj) 12 aks.length hval
    have hal : aks.length ≤ 11 := by rw [hinn.len]; exact hlen
    have hb1 : 0 ≤ (preSum (lenVal adj) aks.length).fdiv 2 := Int.fdiv_nonneg hpb.1 (by decide)
    have hb3 : (preSum (lenVal adj) aks.length).fdiv 2 < 2 ^ 63 := by
      rw [Int.fdiv_eq_ediv_of_nonneg _ (by decide)]
      omega
    have hb2 : (preSum (lenVal adj) aks.length).fdiv 2 ≤ 200 := by
      rw [Int.fdiv_eq_ediv_of_nonneg _ (by decide)]
      omega
    k_steps
    · rename_i kF kN Tc kX
      refine h _ _ _ _ _ _ kF kN hT5 ⟨?_, fun k hk => ?_, fun hb => hgs7.bare (hb.push rfl)⟩ hb1 hb2 hL7
      · rw [hgs7.size, Array.size_push]; exact Nat.le_succ _
      · rw [hgs7.but k (by simp only [List.mem_singleton]; exact Nat.ne_of_lt hk), Array.getElem?_push_lt hk, Array.getElem?_eq_getElem hk]
end Mine
end
section
open PySem PySem.W PySem.Calls PyProof.Rows
set_option maxRecDepth 100000
namespace Mine
section
variable {prog : Program} {w : World} {A : Around} {x S C f f2 : Addr} {K : Frag}
/-- the items are about to be taken one by one, from an iterator whose walkers write cw alone -/
def ExtAtX (prog : Program) (w : World) (A : Around) (S : Addr) (Kq : List Value → Shared → Prop) (it : Value) (s : Shared) : Prop :=
  ∃ (I : Addr) (B : Nat) (wr cw : List Addr) (gn : List Nat) (n : Nat) (P : Nat → Heap → Value → Heap → Prop) (St : Nat → Shared → Prop) (J : Nat → List Value → Shared → Prop) (c : Nat),
    it = .ref I ∧ ItX prog w A.in1 I B wr cw gn n P St ∧ n ≤ sizeLine ∧ S ∈ cw ∧ (cStatics < B ∧ cStatics ∉ wr) ∧ cStatics ≠ S ∧
    (∀ i acc s v s', i < n → J i acc s → P i s.heap v s'.heap → KeepX B wr cw gn s s' → J (i + 1) (acc ++ [v]) s') ∧
    (∀ i acc s h', J i acc s → (∀ b o, b ≠ S → s.heap.get? b = some o → h'.get? b = some o) → J i acc { s with heap := h' }) ∧
    St 0 s ∧ s.heap.NoLimit ∧ s.heap.get? S = some { cls := .type "list", dict := none, data := .seq #[] c, slots := #[] } ∧ J 0 [] s ∧
    ∀ s₁ s' acc c', J n acc s₁ → KeepX B wr cw gn s₁ s' → acc.length = n → (∀ b o, b ≠ S → s.heap.get? b = some o → ((b < B ∧ b ∉ wr) ∨ b ∈ cw) → s'.heap.get? b = some o) → GIn gn s.gens s'.gens → s'.drawn = s.drawn → s'.os = s.os →
      s'.heap.get? S = some { cls := .type "list", dict := none, data := .seq acc.toArray c', slots := #[] } → Kq acc s'
def HintAtX (prog : Program) (w : World) (A : Around) (K : Frag) (C x S : Addr) (Kq : List Value → Shared → Prop) (it : Value) (s : Shared) : Prop :=
  (∃ ox od, K.In s.heap ∧ InstAt s.heap x ox C od) ∧ wpAny (model prog w) A.in1 (call (.builtin "len") [.ref x]) (fun n s₃ => ∃ k t, n = .int k t ∧ k.toNat ≤ sizeLine ∧ ExtAtX prog w A S Kq it s₃) Never s
theorem extend_ownX {R : Result → Shared → Prop} {s : Shared} {h₀ : Heap} {L : Addr} {m : Str → Option Value} {ox : Obj} {od : Option Obj} (res : Value) (hxS : x ≠ S) (F : Fr h₀ L s.heap m) (X₀ : K.In h₀) (I : InstAt s.heap x ox C od)
    (hs : findIn K (.ref C) "__iter__" = some (some (.ref f))) (hf : isFn K (.ref f) = true) (hs2 : findIn K (.ref C) "__len__" = some (some (.ref f2)))
    (h : wpAny (model prog w) A.in1 (call (.ref f) [.ref x]) (OwitIt (model prog w) A.in1 (HintAtX prog w A K C x S fun acc s' => R (.ok (.ret res)) s') fun e s' => R (.error e) s') (fun e s' => R (.error e) s') s) :
    wpAny (model prog w) A.in1 (Builtin.List.listExtendWith (.ref S) (.ref x) res)
      (fun fin s' => match fin with | .done f => R (.ok f) s' | .again c' => c'.quiet = true ∧ codeAny (model prog w) A c' R s') (fun e s' => R (.error e) s') s := by
  have h1 : Builtin.List.listSameRef (.ref S) (.ref x) = false := by simp [Builtin.List.listSameRef, Ne.symm hxS]
  unfold Builtin.List.listExtendWith
  refine wpAny_bind (I.type.here ?_)
  have h2 : (Value.ref C == Value.type "list") = false := rfl
  have h3 : (Value.ref C == Value.type "tuple") = false := rfl
  simp only [h1, h2, h3, Bool.or_false, Bool.false_eq_true, if_false]
  refine wpAny_bind (owit_iter F X₀ I hs hf (wpAny_mono h (fun it s₂ h₂ => ?_) fun _ _ e => e))
  refine wpAny_mono h₂ (fun r s₃ hr => ?_) fun _ _ e => e
  cases r with
  | none => exact hr.elim
  | some g =>
    obtain ⟨⟨ox', od', X', I'⟩, hlen⟩ := hr
    refine wpAny_bind (wpAny_holding (hint_own X' I' hs2 (wpAny_mono hlen (fun n s₃ hn => ?_) fun _ _ e => e)))
    obtain ⟨k, t, rfl, hk, hx⟩ := hn
    refine ⟨k, t, rfl, hk, fun b => ?_⟩
    obtain ⟨I, B, wr, cw, gn, n, P, St, J, c, rfl, W, hn, hSc, hcw, hcS, hJ, hJS, hst, hnl, hS, h0, hR⟩ := hx
    have go : ∀ (s₄ : Shared) c', s₄.drawn = s₃.drawn → s₄.os = s₃.os → s₄.gens = s₃.gens → (∀ b o, b ≠ S → s₃.heap.get? b = some o → s₄.heap.get? b = some o) → St 0 s₄ → s₄.heap.NoLimit → s₄.heap.get? S = some { cls := .type "list", dict := none, data := .seq #[] c', slots := #[] } → J 0 [] s₄ →
        wpAny (model prog w) A.in1 (again (.builtin "list.extend.loop" ⟨[.ref S, .ref I, res], []⟩))
          (fun fin s' => match fin with | .done f => R (.ok f) s' | .again c' => c'.quiet = true ∧ codeAny (model prog w) A c' R s') (fun e s' => R (.error e) s') s₄ := fun s₄ c' e1 e2 e3 hk4 hst4 hnl4 hS4 hJ4 =>
      wpAny_pure ⟨plainId_quiet PySem.F.plain_extend_loop _, codeAny_extend_ItX W hn hSc hcw hcS res J hJ hJS n 0 s₄ [] c' rfl (Nat.zero_le _) rfl hst4 hnl4 hS4 hJ4
        fun s₁ s' acc' c'' a1 a2 a3 a4 a5 a6 a7 a8 => hR s₁ s' acc' c'' a1 a2 a3 (fun b o hb e q => a4 b o hb (hk4 b o hb e) q) (e3 ▸ a5) (a6.trans e1) (a7.trans e2) a8⟩
    split
    · refine wpAny_bind (wpAny_rule ?_)
      refine wpAny_bind ?_
      show wpAny _ A.in1 (updateSeq S (·.push .none) >>= fun _ => updateSeq S (·.pop)) _ _ _
      refine wpAny_bind (wpAny_updateSeq hS rfl ?_)
      have hS₂ := Heap.get?_update_self (Obj.mapSeq (·.push Value.none)) hS rfl
      refine wpAny_updateSeq (hz := by seq_fits) hS₂ rfl ?_
      have hS₃ := Heap.get?_update_self (Obj.mapSeq (·.pop)) hS₂ rfl
      have oth : ∀ b o, b ≠ S → s₃.heap.get? b = some o → ((s₃.heap.update S (Obj.mapSeq (·.push Value.none))).update S (Obj.mapSeq (·.pop))).get? b = some o :=
        fun b o hb e => (Heap.get?_update_other _ _ (Ne.symm hb)).trans ((Heap.get?_update_other _ _ (Ne.symm hb)).trans e)
      refine go _ _ rfl rfl rfl oth (W.frame _ s₃ _ hst ⟨fun b o hb e => oth b o (fun q => hb (q ▸ hSc)) e, fun _ _ => rfl, live_upd hS₃ oth⟩) ?_ hS₃ (hJS 0 [] s₃ _ h0 oth)
      exact noLimit_at (wr := [S]) (by simp [hcS]) hnl fun b o hb e => oth b o (by simpa using hb) e
    · exact go s₃ c rfl rfl rfl (fun _ _ _ e => e) hst hnl hS h0
/-- list of an object of a class of the text -/
theorem list_own {Q : Value → Shared → Prop} {E : Value → Shared → Prop} {s : Shared} {h₀ : Heap} {L : Addr} {m : Str → Option Value} {ox : Obj} {od : Option Obj} (F : Fr h₀ L s.heap m) (X₀ : K.In h₀) (I : InstAt s.heap x ox C od)
    (hs : findIn K (.ref C) "__iter__" = some (some (.ref f))) (hf : isFn K (.ref f) = true) (hs2 : findIn K (.ref C) "__len__" = some (some (.ref f2)))
    (h : ∀ S h₁ c, S = s.heap.objs.size → (∀ b o, s.heap.get? b = some o → h₁.get? b = some o) → h₁.get? S = some { cls := .type "list", dict := none, data := .seq #[] c, slots := #[] } →
      wpAny (model prog w) A.in1.in1 (call (.ref f) [.ref x]) (OwitIt (model prog w) A.in1.in1 (HintAtX prog w A.in1 K C x S fun _ s' => Q (.ref S) s') E) E { s with heap := h₁ }) :
    wpAny (model prog w) A (call (.type "list") [.ref x]) Q E s := by
  refine callType_codes (Q₁ := fun obj s₁ => obj = .ref s.heap.objs.size ∧ s₁ = { s with heap := s.heap.push { cls := .type "list", data := .seq #[] } }) PySem.F.called_list (PySem.F.typeCall_list_1 _) PySem.F.entry_list_init
    (code_list_new _ ⟨rfl, rfl⟩) fun obj s₁ h₁ => ?_
  obtain ⟨rfl, rfl⟩ := h₁
  have hS : (s.heap.push { cls := .type "list", data := .seq #[] }).get? s.heap.objs.size = some { cls := .type "list", data := .seq #[] } := Heap.get?_push_size _ rfl
  refine ⟨⟨_, hS, rfl⟩, PySem.F.args_list_init_2 _ _, ?_⟩
  show wpAny _ A.in1.in1 (do let old ← Builtin.List.listItems (.ref s.heap.objs.size); Builtin.List.listUpdate (.ref s.heap.objs.size) (fun _ => #[]); letGo old.toList.reverse; Builtin.List.listExtendWith (.ref s.heap.objs.size) (.ref x) .none) _ _ _
  refine wpAny_bind ?_
  unfold Builtin.List.listItems
  refine wpAny_bind (wpAny_seqItems hS rfl (wpAny_pure ?_))
  show wpAny _ A.in1.in1 (updateSeq s.heap.objs.size (fun _ => #[]) >>= fun _ => letGo (#[] : Array Value).toList.reverse >>= fun _ => Builtin.List.listExtendWith (.ref s.heap.objs.size) (.ref x) .none) _ _ _
  refine wpAny_bind (wpAny_updateSeq hS rfl ?_)
  have hS₂ := Heap.get?_update_self (Obj.mapSeq (fun _ => (#[] : Array Value))) hS rfl
  have hk : ∀ b o, s.heap.get? b = some o → ((s.heap.push { cls := .type "list", data := .seq #[] }).update s.heap.objs.size (Obj.mapSeq (fun _ => (#[] : Array Value)))).get? b = some o :=
    fun b o e => (Heap.get?_update_other _ _ (Nat.ne_of_gt (Heap.lt_size e))).trans (Heap.get?_push_of_some _ e)
  refine wpAny_bind (wpAny_letGo ?_)
  have hxS : x ≠ s.heap.objs.size := Nat.ne_of_lt (Heap.lt_size I.at_)
  refine extend_ownX (A := A.in1) (R := wants (fun r s₂ => r = .none ∧ Q (.ref s.heap.objs.size) s₂) E) .none hxS (F.kept hk) X₀ (?_ : InstAt _ x ox C od) hs hf hs2 (wpAny_mono (h _ _ _ rfl hk hS₂) (fun it s₂ h₂ => ?_) fun _ _ e => e)
  · refine ⟨hk _ _ I.at_, I.cls, I.no, ?_⟩
    have hd := I.dict
    cases h1 : ox.dict with
    | none => rw [h1] at hd; cases od with
      | none => trivial
      | some o => exact hd.elim
    | some dx => rw [h1] at hd; cases od with
      | none => exact hd.elim
      | some o => exact hk _ _ hd
  · refine wpAny_mono h₂ (fun r s₃ hr => ?_) fun _ _ e => e
    cases r with
    | none => exact hr
    | some g =>
      refine ⟨hr.1, wpAny_mono hr.2 (fun n s₄ hn => ?_) fun _ _ e => e⟩
      obtain ⟨k, t, e1, e2, I', B, wr, cw, gn, n', P, St, J, c, b1, b2, b3, b4, b5, b6, b7, b8, b9, b10, b11, b12, b13⟩ := hn
      exact ⟨k, t, e1, e2, I', B, wr, cw, gn, n', P, St, J, c, b1, b2, b3, b4, b5, b6, b7, b8, b9, b10, b11, b12, fun s₁ s' acc c' a1 a2 a3 a4 a5 a6 a7 a8 => ⟨rfl, b13 s₁ s' acc c' a1 a2 a3 a4 a5 a6 a7 a8⟩⟩
end
end Mine
end
section
open PySem PySem.W PySem.Calls PyProof.Rows
namespace Mine
local macro_rules | `(tactic| walk_at "ZZ0") => `(tactic| skip)
local macro_rules | `(tactic| walk_at "ZZ1") => `(tactic| skip)
local macro_rules | `(tactic| walk_at "ZZ2") => `(tactic| skip)
local macro_rules | `(tactic| walk_at "ZZ3") => `(tactic| skip)
local macro_rules | `(tactic| walk_at "ZZ4") => `(tactic| skip)
local macro_rules | `(tactic| walk_at "ZZ5") => `(tactic| skip)
local macro_rules | `(tactic| walk_at "ZZ6") => `(tactic| skip)
local macro_rules | `(tactic| walk_at "ZZ7") => `(tactic| skip)
local macro_rules | `(tactic| walk_at "ZZ8") => `(tactic| skip)
local macro_rules | `(tactic| walk_at "ZZ9") => `(tactic| skip)
local macro_rules | `(tactic| walk_at "ZZ10") => `(tactic| skip)
local macro_rules | `(tactic| walk_at "ZZ11") => `(tactic| skip)
local macro_rules | `(tactic| walk_at "ZZ12") => `(tactic| skip)
local macro_rules | `(tactic| walk_at "ZZ13") => `(tactic| skip)
local macro_rules | `(tactic| walk_at "ZZ14") => `(tactic| skip)
local macro_rules | `(tactic| walk_at "ZZ15") => `(tactic| skip)
local macro_rules | `(tactic| walk_at "ZZ16") => `(tactic| skip)
local macro_rules | `(tactic| walk_at "ZZ17") => `(tactic| skip)
local macro_rules | `(tactic| walk_at "ZZ18") => `(tactic| skip)
local macro_rules | `(tactic| walk_at "ZZ19") => `(tactic| skip)
local macro_rules | `(tactic| walk_at "ZZ20") => `(tactic| skip)
local macro_rules | `(tactic| walk_at "ZZ21") => `(tactic| skip)
local macro_rules | `(tactic| walk_at "ZZ22") => `(tactic| skip)
local macro_rules | `(tactic| walk_at "ZZ23") => `(tactic| skip)
local macro_rules | `(tactic| walk_at "ZZ24") => `(tactic| skip)
local macro_rules | `(tactic| walk_at "ZZ25") => `(tactic| skip)
local macro_rules | `(tactic| walk_at "ZZ26") => `(tactic| skip)
local macro_rules | `(tactic| walk_at "ZZ27") => `(tactic| skip)
local macro_rules | `(tactic| walk_at "ZZ28") => `(tactic| skip)
local macro_rules | `(tactic| walk_at "ZZ29") => `(tactic| skip)
theorem rs11 {M : Model} {A : Around} {E : Value → Shared → Prop} {s : Shared} {env : Env} {pos : Pos} {Q : Flow → Shared → Prop} (h : wpAny M A (exec (.Pass pos) env) Q E s) : wpAny M A (exec (.Pass pos) env) Q E s := by
  w_top off
  first | (walk1; fail) | exact h
end Mine
end
section
open PySem PySem.W PySem.Calls PyProof.Rows
set_option maxRecDepth 100000
set_option maxHeartbeats 2000000
set_option rowWalk.seconds 0
namespace Mine
/-- a list's items: pairs of ints, each a tuple of the ledger -/
inductive PairsAre : List Value → List (Addr × Obj) → List (Int × Int) → Prop
  | nil : PairsAre [] [] []
  | cons {t : Addr} {u v : Int} {tu tv : Tok} {vs : List Value} {tups : List (Addr × Obj)} {es : List (Int × Int)} : PairsAre vs tups es →
      PairsAre (.ref t :: vs) ((t, (⟨.type "tuple", none, .seq #[.int u tu, .int v tv] 0, #[]⟩ : Obj)) :: tups) ((u, v) :: es)
theorem pairs_of {h : Heap} {B : Nat} : ∀ (es : List (Int × Int)) (acc : List Value), acc.length = es.length →
    (∀ j, j < es.length → ∃ t tu tv, acc[j]? = some (.ref t) ∧ h.get? t = some (⟨.type "tuple", none, .seq #[.int (es.getD j (0, 0)).1 tu, .int (es.getD j (0, 0)).2 tv] 0, #[]⟩ : Obj) ∧ B ≤ t) →
    ∃ tups, PairsAre acc tups es ∧ ∀ p ∈ tups, h.get? p.1 = some p.2 ∧ B ≤ p.1
  | [], acc, hl, _ => by
    cases acc with
    | nil => exact ⟨[], .nil, fun p hp => nomatch hp⟩
    | cons a r => simp at hl
  | (u, v) :: es, acc, hl, hj => by
    cases acc with
    | nil => simp at hl
    | cons a r =>
      obtain ⟨t, tu, tv, h1, h2, h3⟩ := hj 0 (by simp)
      simp only [List.getElem?_cons_zero, Option.some.injEq] at h1
      subst h1
      obtain ⟨tups, p1, p2⟩ := pairs_of es r (by simpa using hl) fun j hjl => by
        obtain ⟨t', tu', tv', a1, a2, a3⟩ := hj (j + 1) (by simpa using hjl)
        exact ⟨t', tu', tv', by simpa using a1, by simpa using a2, a3⟩
      exact ⟨_ :: tups, .cons p1, fun p hp => by
        rcases List.mem_cons.mp hp with rfl | hp
        · exact ⟨h2, h3⟩
        · exact p2 p hp⟩
theorem list_edges {w : World} {mean : ExcName → Option Value} {mg mb : Str → Option Value} {gd : Option (List Code)} {cn : Str} {nms : List (Str × NameKind)} {sg sc : Bool} {mo : List (Str × Const)} {a : Addr} {ccd : Value} {cl : List (Str × Addr)} {outer : List Env} {A₀ : Around} {base h₀ : Heap} {L : Addr} {m : Str → Option Value} {rest : List (Addr × Obj)} {s : Shared}
    {Q E : Value → Shared → Prop} {ps : Array Value} {ev dv aa : Addr} {ta : Tok} {oa : Obj} {aks : List (Int × Value)} {adj : List (Int × List Int)} {tl : List (Addr × Obj)}
    (B : Below A₀ base outer h₀) (F : Fr h₀ L s.heap m) (X : (hd.heap_39 w.params).In h₀) (N : News h₀ L s.heap ((230, tabObj ps) :: (ev, instObj 252 dv) :: (dv, dictOf (DEd w ta aa) 1) :: (aa, oa) :: (tl ++ rest))) (T : Top TP LS mean mg mb h₀)
    (hps : TriplesOk ps.toList) (hoa : oa.IsDictOf (PySem.intKind PP w) aks) (laa : (aa == sysModules) = false) (hinn : Inn (prog := PP) w tl aks adj) (hlen : adj.length ≤ 11) (hcl : Closed adj) (hnd : (adj.map (·.1)).Nodup) (hel : (edgesFrom adj []).length ≤ 1000)
    (h230 : ∀ p ∈ (ev, instObj 252 dv) :: (dv, dictOf (DEd w ta aa) 1) :: (aa, oa) :: tl, p.1 ≠ 230) (h230' : ∀ p ∈ rest, p.1 ≠ 230)
    (h : ∀ h' tk gs ps' S c acc tups, Fr h₀ L h' m → News h₀ L h' ((S, listOf (List.toArray acc) c) :: (230, tabObj ps') :: (ev, instObj 252 dv) :: (dv, dictOf (DEd w ta aa) 1) :: (aa, oa) :: (tups ++ (tl ++ rest))) → TriplesOk ps'.toList → PairsAre acc tups (edgesFrom adj []) → GExt s.gens gs →
      (∀ p ∈ (230, tabObj ps) :: (ev, instObj 252 dv) :: (dv, dictOf (DEd w ta aa) 1) :: (aa, oa) :: (tl ++ rest), p.1 < S) → (∀ p ∈ tups, S < p.1) → Q (.ref S) { heap := h', gens := gs, drawn := s.drawn, toks := tk, os := s.os }) :
    wpAny (model PP w) (ktrTop 302 7 gd cn { kind := .function, names := nms, isGenerator := sg, isCoroutine := sc, more := mo } L a ccd cl outer) (call (.type "list") [.ref ev]) Q E s := by
  refine of_mk ?_
  k_fill
  intro _
  have hevi : InstAt s.heap ev (instObj 252 dv) 252 (some (dictOf (DEd w ta aa) 1)) := ⟨(N _ (.tail _ (.head _))).1, rfl, rfl, (N _ (.tail _ (.tail _ (.head _)))).1⟩
  refine list_own F X (x := ev) (C := 252) (f := 242) (f2 := 235) hevi (by k_is) (by k_is) (by k_is) ?_
  intro S h₁ c hS hk hS₁
  have F₁ : Fr h₀ L h₁ m := F.kept hk
  have hSlt : ∀ p ∈ (230, tabObj ps) :: (ev, instObj 252 dv) :: (dv, dictOf (DEd w ta aa) 1) :: (aa, oa) :: (tl ++ rest), p.1 < S := fun p hp => hS ▸ Heap.lt_size (N p hp).1
  have hSg : h₀.get? S = none := by
    cases q : h₀.get? S with
    | none => rfl
    | some o => exact absurd (Heap.lt_size (F.keep _ _ q)) (by rw [hS]; exact Nat.lt_irrefl _)
  have hSL : S ≠ L := fun e => absurd F.ns.lt (by rw [← e, hS]; exact Nat.lt_irrefl _)
  have N₁ : News h₀ L h₁ ((ev, instObj 252 dv) :: (dv, dictOf (DEd w ta aa) 1) :: (aa, oa) :: (tl ++ ((S, listOf #[] c) :: (230, tabObj ps) :: rest))) := fun p hp => by
    have old : ∀ q ∈ (230, tabObj ps) :: (ev, instObj 252 dv) :: (dv, dictOf (DEd w ta aa) 1) :: (aa, oa) :: (tl ++ rest), h₁.get? q.1 = some q.2 ∧ q.1 ≠ L ∧ h₀.get? q.1 = none := fun q hq => ⟨hk _ _ (N q hq).1, (N q hq).2⟩
    simp only [List.mem_cons, List.mem_append] at hp old
    rcases hp with h | h | h | h | h | h | h
    · exact old p (by simp only [h, true_or, or_true])
    · exact old p (by simp only [h, true_or, or_true])
    · exact old p (by simp only [h, true_or, or_true])
    · exact old p (by simp only [h, true_or, or_true])
    · rw [h]; exact ⟨hS₁, hSL, hSg⟩
    · exact old p (by simp only [h, true_or, or_true])
    · exact old p (by simp only [h, true_or, or_true])
  show wpAny _ (ktrTop 302 9 gd cn { kind := .function, names := nms, isGenerator := sg, isCoroutine := sc, more := mo } L a ccd cl outer) _ _ _ _
  refine iter_edges (cw := [S, 230]) B F₁ X N₁ T hoa laa hinn hlen hcl hnd (fun x hx => ?_) (fun p hp => ?_) fun h2 tk2 I cg Lg F2 hk2 hI2 hLg2 hLgI hsz1 hsz2 hgen => ?_
  · simp only [List.mem_cons, List.not_mem_nil, or_false] at hx
    rcases hx with rfl | rfl
    · exact ⟨_, .head _⟩
    · exact ⟨_, .tail _ (.head _)⟩
  · simp only [List.mem_cons, List.not_mem_nil, or_false, not_or]
    refine ⟨Nat.ne_of_lt (hSlt p ?_), h230 p hp⟩
    simp only [List.mem_cons, List.mem_append] at hp ⊢
    rcases hp with h | h | h | h <;> simp only [h, true_or, or_true]
  dsimp only at hk2 hI2 hLg2 hsz1 hgen
  refine wpAny_specialOf hgen.1.typeIs slot_gen_next.lookup ?_
  have N2 : News h₀ L h2 ((230, tabObj ps) :: (ev, instObj 252 dv) :: (dv, dictOf (DEd w ta aa) 1) :: (aa, oa) :: (tl ++ ((S, listOf #[] c) :: exs h₀ h2 L [230]))) := fun p hp => by
    have old : ∀ q ∈ (ev, instObj 252 dv) :: (dv, dictOf (DEd w ta aa) 1) :: (aa, oa) :: (tl ++ ((S, listOf #[] c) :: (230, tabObj ps) :: rest)), h2.get? q.1 = some q.2 ∧ q.1 ≠ L ∧ h₀.get? q.1 = none := fun q hq => ⟨hk2 _ _ (N₁ q hq).1, (N₁ q hq).2⟩
    simp only [List.mem_cons, List.mem_append] at hp old
    rcases hp with h | h | h | h | h | h | h
    · exact old p (by simp only [h, true_or, or_true])
    · exact old p (by simp only [h, true_or, or_true])
    · exact old p (by simp only [h, true_or, or_true])
    · exact old p (by simp only [h, true_or, or_true])
    · exact old p (by simp only [h, true_or, or_true])
    · exact old p (by simp only [h, true_or, or_true])
    · exact exs_news p h
  refine ⟨⟨instObj 252 dv, some (dictOf (DEd w ta aa) 1), X.keeps F2.keep, (N2 (ev, _) (by simp)).1, rfl, rfl, (N2 (dv, _) (by simp)).1⟩, ?_⟩
  show wpAny _ (ktrTop 302 9 gd cn { kind := .function, names := nms, isGenerator := sg, isCoroutine := sc, more := mo } L a ccd cl outer) _ _ _ _
  refine len_edges B F2 X N2 T hps hoa laa hinn hlen hcl (fun p hp => ?_) fun h3 tk3 gs3 ps3 k t F3 N3 hT3 hgs3 hk0 hk1 hL3 => ⟨k, t, rfl, ?_, ?_⟩
  · simp only [List.mem_cons, List.mem_append] at hp
    have := h230 p
    simp only [List.mem_cons] at this
    rcases hp with h | h | h | h | h | h
    · exact this (by simp only [h, true_or, or_true])
    · exact this (by simp only [h, true_or, or_true])
    · exact this (by simp only [h, true_or, or_true])
    · exact this (by simp only [h, true_or, or_true])
    · rw [h]; exact Ne.symm (Nat.ne_of_lt (hSlt _ (.head _)))
    · exact exs_off (List.mem_singleton.mpr rfl) p h
  · rw [sizeLine_eq]; omega
  have hSI : S < I := Nat.lt_of_lt_of_le (Heap.lt_size hS₁) (Nat.le_of_lt (Nat.lt_of_le_of_lt hsz1 hLgI))
  have hcsL : cStatics ≠ L ∧ ∃ o, h₀.get? cStatics = some o := by
    obtain ⟨mc, ⟨oS, _, _, hS0, _⟩, _⟩ := Top.nolimit T
    exact ⟨fun e => absurd (Heap.lt_size hS0) (Nat.not_lt.mpr (e ▸ F.above)), oS, hS0⟩
  obtain ⟨hcsL, oS, hoS⟩ := hcsL
  have hcsn : cStatics < S := by rw [hS]; exact Heap.lt_size (F.keep _ _ hoS)
  have hLgS : S < Lg := Nat.lt_of_lt_of_le (Heap.lt_size hS₁) hsz1
  have hcs : cStatics < I + 1 ∧ cStatics ∉ [Lg] := ⟨Nat.lt_succ_of_lt (Nat.lt_trans hcsn hSI), by simp only [List.mem_singleton]; exact Nat.ne_of_lt (Nat.lt_trans hcsn hLgS)⟩
  have W := ItX.gen (prog := PP) (w := w) (A := ktrTop 302 9 gd cn { kind := .function, names := nms, isGenerator := sg, isCoroutine := sc, more := mo } L a ccd cl outer) (b := false) (a := I) (g := s.gens.size) (B := I + 1) (wr := [Lg]) (cw := [S, 230]) (gn := [])
    (n := (edgesFrom adj []).length) (P := PairP (I + 1) fun j => (edgesFrom adj []).getD j (0, 0)) rfl (by k_room) ⟨Nat.lt_succ_self _, by simp only [List.mem_singleton]; exact Nat.ne_of_gt hLgI⟩ (by
      simp only [List.mem_cons, List.not_mem_nil, or_false, not_or]
      exact ⟨Nat.ne_of_gt hSI, Nat.ne_of_gt (Nat.lt_trans (hSlt _ (.head _)) hSI)⟩) List.not_mem_nil hcs
  have old3 : ∀ b o, b ∉ [S, 230] → h2.get? b = some o → h3.get? b = some o := fun b o hb e => by
    simp only [List.mem_cons, List.not_mem_nil, or_false, not_or] at hb
    by_cases hbL : b = L
    · subst hbL; exact hL3 o e
    · cases hg : h₀.get? b with
      | some o' =>
        have h1 := F2.keep b o' hg
        rw [e] at h1
        cases h1
        exact F3.keep b _ hg
      | none => exact (N3 (b, o) (by simp only [List.mem_cons, List.mem_append]; exact .inr (.inr (.inr (.inr (.inr (.inr (exs_in e hbL hg (by simp [hb.2])))))))) ).1
  have hIlt3 : I < h3.objs.size := by
    obtain ⟨o, nm, qn, ho, _⟩ := hgen.1
    refine Heap.lt_size (old3 I o ?_ ho)
    simp only [List.mem_cons, List.not_mem_nil, or_false, not_or]
    exact ⟨Nat.ne_of_gt hSI, Nat.ne_of_gt (Nat.lt_trans (hSlt _ (.head _)) hSI)⟩
  have hglt : s.gens.size < (s.gens.push (GenState.fresh cg)).size := by rw [Array.size_push]; exact Nat.lt_succ_self _
  have st3 := W.frame 0 _ { heap := h3, gens := gs3, drawn := s.drawn, toks := tk3, os := s.os } hgen ⟨old3, fun k hk => by
    simp only [List.mem_singleton] at hk
    rw [hk]
    exact hgs3.old _ hglt, fun b hb _ _ => by
    simp only [List.mem_cons, List.not_mem_nil, or_false] at hb
    rcases hb with rfl | rfl
    · exact ⟨_, (N3 (_, listOf #[] c) (by simp)).1⟩
    · exact ⟨_, (N3 (230, tabObj ps3) (by simp)).1⟩⟩
  have hS3 := (N3 (S, listOf #[] c) (by simp)).1
  refine ⟨I, I + 1, [Lg], [S, 230], [s.gens.size], _, _, _, fun i acc sx => acc.length = i ∧ ∀ j, j < i → ∃ t tu tv, acc[j]? = some (.ref t) ∧ sx.heap.get? t = some (⟨.type "tuple", none, .seq #[.int ((edgesFrom adj []).getD j (0, 0)).1 tu, .int ((edgesFrom adj []).getD j (0, 0)).2 tv] 0, #[]⟩ : Obj) ∧ I + 1 ≤ t, c, rfl, W, ?_, .head _, hcs, Nat.ne_of_lt hcsn, ?_, ?_, st3, (Top.nolimit T).keeps F3.keep, hS3, ⟨rfl, fun j hj => absurd hj (Nat.not_lt_zero _)⟩, ?_⟩
  · rw [sizeLine_eq]; omega
  · rintro i acc sx v sy hi ⟨hl, hj⟩ ⟨t, tu, tv, rfl, ht, hIt⟩ hkx
    refine ⟨by rw [List.length_append, hl]; rfl, fun j hjl => ?_⟩
    rcases Nat.lt_succ_iff_lt_or_eq.mp hjl with q | q
    · obtain ⟨t', tu', tv', a1, a2, a3⟩ := hj j q
      exact ⟨t', tu', tv', by rw [List.getElem?_append_left (by rw [hl]; exact q)]; exact a1, hkx.heap _ _ a2 (.inr (.inr ⟨rfl, _, _, rfl⟩)), a3⟩
    · subst q
      exact ⟨t, tu, tv, by rw [List.getElem?_append_right (by rw [hl]; exact Nat.le_refl _), hl, Nat.sub_self]; rfl, ht, hIt⟩
  · rintro i acc sx hx ⟨hl, hj⟩ hkx
    refine ⟨hl, fun j hjl => ?_⟩
    obtain ⟨t', tu', tv', a1, a2, a3⟩ := hj j hjl
    exact ⟨t', tu', tv', a1, hkx _ _ (Nat.ne_of_gt (Nat.lt_of_lt_of_le (Nat.lt_succ_of_lt hSI) a3)) a2, a3⟩
  · rintro s₁ ⟨h5, gs5, dr5, tk5, os5⟩ acc c' ⟨hl, hj⟩ hkx hlen5 hk5 hgs5 hdr5 hos5 hS5
    dsimp only at hk5 hgs5 hdr5 hos5 hS5
    subst hdr5; subst hos5
    obtain ⟨tups, hp1, hp2⟩ := pairs_of (h := h5) (B := I + 1) (edgesFrom adj []) acc hl fun j hjl => by
      obtain ⟨t', tu', tv', a1, a2, a3⟩ := hj j hjl
      exact ⟨t', tu', tv', a1, hkx.heap _ _ a2 (.inr (.inr ⟨rfl, _, _, rfl⟩)), a3⟩
    have k5 : ∀ b o, b < S → h3.get? b = some o → h5.get? b = some o := fun b o hb e => hk5 b o (Nat.ne_of_lt hb) e (.inl ⟨Nat.lt_succ_of_lt (Nat.lt_trans hb hSI), by simp only [List.mem_singleton]; exact Nat.ne_of_lt (Nat.lt_trans hb hLgS)⟩)
    have hLS : L < S := by rw [hS]; exact F.ns.lt
    have hgS : ∀ b o, h₀.get? b = some o → b < S := fun b o e => by rw [hS]; exact Heap.lt_size (F.keep _ _ e)
    refine h h5 tk5 gs5 ps3 S c' acc tups ⟨F3.ns.at' fun o e => k5 _ o hLS e, fun b o e => k5 b o (hgS b o e) (F3.keep b o e), F3.above⟩ ?_ hT3 hp1 ?_ hSlt fun p hp => Nat.lt_of_lt_of_le (Nat.lt_succ_of_lt hSI) (hp2 p hp).2
    · intro p hp
      have old : ∀ q ∈ (230, tabObj ps3) :: (ev, instObj 252 dv) :: (dv, dictOf (DEd w ta aa) 1) :: (aa, oa) :: tl, h5.get? q.1 = some q.2 ∧ q.1 ≠ L ∧ h₀.get? q.1 = none := fun q hq => by
        have hlt : q.1 < S := by
          rcases List.mem_cons.mp hq with rfl | hq
          · exact hSlt (230, tabObj ps) (.head _)
          · refine hSlt q (List.mem_cons_of_mem _ ?_)
            simp only [List.mem_cons, List.mem_append]
            simp only [List.mem_cons] at hq
            rcases hq with h | h | h | h <;> simp only [h, true_or, or_true]
        have hn := N3 q (by
          simp only [List.mem_cons, List.mem_append]
          simp only [List.mem_cons] at hq
          rcases hq with h | h | h | h | h <;> simp only [h, true_or, or_true])
        exact ⟨k5 _ _ hlt hn.1, hn.2⟩
      simp only [List.mem_cons, List.mem_append] at hp old
      rcases hp with h | h | h | h | h | h | h | h
      · rw [h]; exact ⟨hS5, hSL, hSg⟩
      · exact old p (by simp only [h, true_or, or_true])
      · exact old p (by simp only [h, true_or, or_true])
      · exact old p (by simp only [h, true_or, or_true])
      · exact old p (by simp only [h, true_or, or_true])
      · have hlt := Nat.lt_of_lt_of_le (Nat.lt_succ_of_lt hSI) (hp2 p h).2
        refine ⟨(hp2 p h).1, Nat.ne_of_gt (Nat.lt_trans hLS hlt), ?_⟩
        cases q : h₀.get? p.1 with
        | none => rfl
        | some o => exact absurd (hgS _ _ q) (Nat.not_lt.mpr (Nat.le_of_lt hlt))
      · exact old p (by simp only [h, true_or, or_true])
      · have hpN : p ∈ (230, tabObj ps) :: (ev, instObj 252 dv) :: (dv, dictOf (DEd w ta aa) 1) :: (aa, oa) :: (tl ++ rest) := by simp only [List.mem_cons, List.mem_append, h, true_or, or_true]
        have hlt := hSlt p hpN
        refine ⟨k5 _ _ hlt (old3 _ _ ?_ (hk2 _ _ (N₁ p (by simp only [List.mem_cons, List.mem_append, h, true_or, or_true])).1)), (N p hpN).2⟩
        simp only [List.mem_cons, List.not_mem_nil, or_false, not_or]
        exact ⟨Nat.ne_of_lt hlt, h230' p h⟩
    · refine ⟨?_, fun k hk => ?_, fun hb => ?_⟩
      · have := hgs3.size
        rw [hgs5.size]
        rw [Array.size_push] at this
        exact Nat.le_of_lt this
      · rw [hgs5.but k (by simp only [List.mem_singleton]; exact Nat.ne_of_lt hk), hgs3.old k (by rw [Array.size_push]; exact Nat.lt_succ_of_lt hk), Array.getElem?_push_lt hk, Array.getElem?_eq_getElem hk]
      · exact hgs5.bare (hgs3.bare (hb.push rfl))
end Mine
end
section
open PySem PySem.W PySem.Calls PyProof.Rows
set_option maxRecDepth 100000
namespace Mine
def intOf : Value → Int
  | .int k _ => k
  | _ => 0
theorem storedAll_keys {FV : Value → Prop} {l : List Value} {kvs : List (Int × Value)} (h : StoredAll (fun v k => ∃ t, v = .int k t) (fun _ y => FV y) l kvs) (hn : (l.map intOf).Nodup) : kvs.map (·.1) = l.map intOf ∧ ∀ p ∈ kvs, FV p.2 := by
  induction h with
  | nil => exact ⟨rfl, fun p hp => nomatch hp⟩
  | @snoc l kvs v k y hs hk hy ih =>
    obtain ⟨t, rfl⟩ := hk
    rw [List.map_append, List.nodup_append] at hn
    obtain ⟨e1, e2⟩ := ih hn.1
    have hk : valueAt kvs k = none := by
      rw [va_none_iff, e1]
      exact fun hm => hn.2.2 k hm k (by simp [intOf]) rfl
    rw [st_new kvs y hk]
    refine ⟨by rw [List.map_append, List.map_append, e1]; rfl, fun p hp => ?_⟩
    rcases List.mem_append.mp hp with hp | hp
    · exact e2 p hp
    · rw [List.mem_singleton.mp hp]; exact hy
section
variable {prog : Program} {w : World} {A : Around} {E : Value → Shared → Prop} {s : Shared} {h₀ : Heap} {env : Env} {vx iter : Expr} {x y : Str} {px py pk : Pos} {scope : Scope} {cl : List (Str × Addr)} {pos spos : Pos} {Q : Flow → Shared → Prop}
/-- what stands behind the iter of y = {x: c for x in ..}, over ints -/
def DictAtC (prog : Program) (w : World) (A : Around) (h₀ : Heap) (env : Env) (y : Str) (FV : Value → Prop) (Q : Flow → Shared → Prop) (it : Value) (s₂ : Shared) : Prop :=
  ∃ (I : Addr) (fp wr : List Addr) (n : Nat) (val : Nat → Int) (St : Nat → Heap → Prop) (m : Str → Option Value) (news : List (Addr × Obj)),
    it = .ref I ∧ Walks prog w A I fp wr n (fun i v => ∃ t, v = .int (val i) t) St ∧ St 0 s₂.heap ∧ (∀ b ∈ fp, b < s₂.heap.objs.size) ∧ n ≤ sizeLine ∧ Fr h₀ env.locals s₂.heap m ∧ News h₀ env.locals s₂.heap news ∧ (∀ p ∈ news, p.1 ∉ wr) ∧ (∀ b ∈ wr, h₀.get? b = none ∧ b ≠ env.locals) ∧ ((List.range n).map val).Nodup ∧
    ∀ D o kvs h' tk, Fr h₀ env.locals h' (fun z => if z = y then some (.ref D) else m z) → News h₀ env.locals h' ((D, o) :: news) → o.IsDictOf (PySem.intKind prog w) kvs → kvs.map (·.1) = (List.range n).map val → (∀ p ∈ kvs, FV p.2) → s₂.heap.get? D = none → (∀ p ∈ news, p.1 < D) → D = s₂.heap.objs.size → Q .next { s₂ with heap := h', toks := tk }
theorem dcomp (FV : Value → Prop) (hsw : swapsWith (.DictComp (.Name x pk) vx [⟨.Name x px, iter, [], 0⟩] scope pos) (some (.Name y py)) spos.line env = pure true)
    (hh : A.handled = none) (hclos : closureFor scope env = pure cl) (hcell : ∀ z ∈ scope.names, z.2 ≠ .cell) (hkind : scope.kind = .function)
    (hnames : ∀ z ∈ scope.names, z.2 = .local → scope.names.lookup z.1 = some .local) (hx : scope.names.lookup x = some .local) (hdx : (x == ("__debug__" : Str)) = false)
    (hy : env.kindOf y = some .local) (hp : (env.scope.kind == .class || (env.scope.kind == .module && env.locals != env.globals)) = false)
    (hv : ∀ (cenv : Env) (s : Shared) (E' : Value → Shared → Prop), wpAny (model prog w) A (eval vx cenv) (fun y s₃ => FV y ∧ Keeps s s₃) E' s)
    (h : wpAny (model prog w) A (eval iter env) (fun xv s₁ => wpAny (model prog w) A (pyIter xv) (DictAtC prog w A h₀ env y FV Q) E s₁) E s)
    (hs : ∀ x, foldedSetIterable iter env x = pure x) :
    wpAny (model prog w) A (exec (.Assign [.Name y py] (.DictComp (.Name x pk) vx [⟨.Name x px, iter, [], 0⟩] scope pos) spos) env) Q E s := by
  rw [exec_Assign_Name_used _ _ _ _ hsw]
  refine wpAny_bind (wpAny_standAt (wpAny_bind ?_))
  show wpAny _ A (do let _ ← comprehension (.DictComp (.Name x pk) vx [⟨.Name x px, iter, [], 0⟩] scope pos) scope env _ newDict false (eval iter env) (some (assign (.Name y py) env))) _ _ s
  refine wpAny_bind (wpAny_mono (wpAny_comprehension_free (use := some (assign (.Name y py) env)) (Q := fun _ s' => Q .next s') rfl hs hclos hkind hnames
    (wpAny_mono h (fun xv s₁ h₁ => wpAny_mono h₁ (fun it s₂ h₂ => ?_) fun _ _ e => e) fun _ _ e => e)) (fun _ s' hq => wpAny_pure (wpAny_pure hq)) fun _ _ e => e)
  obtain ⟨I, fp, wr, n, val, St, m, news, rfl, W, hst, hfp, hsz, F, N, hnw, hwr, hnd, hQ⟩ := h₂
  have hkf : ∀ C, (compEnvC scope cl C env).scope.kind = .function := fun C => by simp [compEnvC, relabel, hkind]
  have keeps0 : ∀ s : Shared, Keeps s s := fun s => ⟨s.heap, s.toks, rfl, fun _ _ e => e⟩
  have hszs : ∀ b o, s₂.heap.get? b = some o → b < s₂.heap.objs.size := fun b o e => Heap.lt_size e
  refine wpAny_newObj_type (wpAny_newFunctionEnv hcell (by intro z hz; simp at hz) (fun h₁ hns₁ hsb₁ => ?_) hkind)
  dsimp only at hns₁ hsb₁ ⊢
  have hnew := Heap.DictOf.new (knd := PySem.intKind prog w) s₂.heap
  have hCs : (s₂.heap.push { cls := .type "dict", dict := none, data := .dict #[] }).objs.size = s₂.heap.objs.size + 1 := Heap.size_push _ _
  have hDC0 : s₂.heap.objs.size ≠ (s₂.heap.push { cls := .type "dict", dict := none, data := .dict #[] }).objs.size := by rw [hCs]; exact Nat.ne_of_lt (Nat.lt_succ_self _)
  have apart : ∀ b, b < s₂.heap.objs.size → b ≠ (s₂.heap.push { cls := .type "dict", dict := none, data := .dict #[] }).objs.size ∧ b ≠ s₂.heap.objs.size := fun b hb => ⟨by rw [hCs]; exact Nat.ne_of_lt (Nat.lt_succ_of_lt hb), Nat.ne_of_lt hb⟩
  have old : ∀ b o, s₂.heap.get? b = some o → h₁.get? b = some o := fun b o e => hsb₁.extBut b o (apart b (hszs b o e)).1 (Heap.get?_push_of_some _ (Heap.get?_push_of_some _ e))
  have hacc : h₁.DictOf (PySem.intKind prog w) s₂.heap.objs.size [] := hnew.at fun o e => hsb₁.extBut _ _ hDC0 (Heap.get?_push_of_some _ e)
  have hst₁ : St 0 h₁ := W.frame _ _ _ hst fun b _ o e => old b o e
  have fresh : ∀ a, s₂.heap.objs.size ≤ a → s₂.heap.get? a = none := fun a ha => by
    cases e : s₂.heap.get? a with
    | none => rfl
    | some o' => exact absurd (hszs _ _ e) (Nat.not_lt.mpr ha)
  have hDf : s₂.heap.objs.size ∉ fp := fun hm => Nat.lt_irrefl _ (hfp _ hm)
  have hCf : (s₂.heap.push { cls := .type "dict", dict := none, data := .dict #[] }).objs.size ∉ fp := fun hm => by have := hfp _ hm; rw [hCs] at this; exact Nat.lt_irrefl _ (Nat.lt_of_succ_lt this)
  suffices loop : codeAny (model prog w) A (.compLoop (.DictComp (.Name x pk) vx [⟨.Name x px, iter, [], 0⟩] scope pos) 0 (.ref I) (.ref s₂.heap.objs.size) (compEnvC scope cl (s₂.heap.push { cls := .type "dict", dict := none, data := .dict #[] }).objs.size env))
      (compPost (model prog w) A E (some (assign (.Name y py) env)) (fun _ s' => Q .next s') (.ref s₂.heap.objs.size) (s₂.heap.push { cls := .type "dict", dict := none, data := .dict #[] }).objs.size) { s₂ with heap := h₁, toks := s₂.toks + ([] : List (Str × Value)).length } from
    codeAny_compStart_dict loop (W.self 0 _ _ _ hst₁ loop)
  refine codeAny_compLoop_walkD (hsz := hsz) (knd := PySem.intKind prog w) (cenv := compEnvC scope cl (s₂.heap.push { cls := .type "dict", dict := none, data := .dict #[] }).objs.size env) W (fun _ => true) (fun v k => ∃ t, v = .int k t) (fun _ y => FV y)
    (lookup_relabel_local hx) (by simp [compEnvC, relabel, hkind]) hDC0 hDf hCf hst₁ hacc hns₁ (fun i v s₃ m₃ _ _ _ _ => wpAny_pure ⟨rfl, keeps0 _⟩) (fun i v s₃ m₃ hP _ hn hm _ => ?_) (fun i v s₃ m₃ _ _ _ _ _ => hv _ _ _) fun h' tk m' kvs vs hnC hlD hlen hP hF hk' => ?_
  · obtain ⟨t, rfl⟩ := hP
    exact wpAny_Name (wpAny_loadName_local (hkf _) (lookup_relabel_local hx) hn hm ⟨⟨val i, intKind_is _ _ _ _, t, rfl⟩, keeps0 _⟩) hdx
  · have hk : ∀ b o, b ∉ wr → s₂.heap.get? b = some o → h'.get? b = some o := fun b o hbf e => hk' b o (apart b (hszs b o e)).1 hbf (apart b (hszs b o e)).2 (old b o e)
    have hD := fresh _ (Nat.le_refl _)
    have hC := fresh (s₂.heap.push { cls := .type "dict", dict := none, data := .dict #[] }).objs.size (by rw [hCs]; exact Nat.le_succ _)
    have hDC := hDC0
    generalize (s₂.heap.push { cls := .type "dict", dict := none, data := .dict #[] }).objs.size = C at *
    generalize hDD : s₂.heap.objs.size = D at *
    have hLw : env.locals ∉ wr := fun hm => (hwr _ hm).2 rfl
    have hLC : env.locals ≠ C := by rintro rfl; obtain ⟨o, _, _, ho, _⟩ := F.ns; rw [hC] at ho; cases ho
    have hLD : env.locals ≠ D := by rintro rfl; obtain ⟨o, _, _, ho, _⟩ := F.ns; rw [hD] at ho; cases ho
    show wpAny _ A (assign (.Name y py) env (.ref D)) _ _ _
    refine wpAny_assign_Name (wpAny_storeName_local hy (F.ns.at' fun o e => hk _ o hLw e) (fun h₂ hn₂ hs₂ => ?_) hp)
    refine ⟨m', hnC.sameBut hs₂ (Ne.symm hLC), fun h₃ hs₃ => ?_⟩
    have keep : ∀ b o, b ≠ env.locals → b ∉ wr → s₂.heap.get? b = some o → h₃.get? b = some o := fun b o hb hbw e =>
      hs₃.extBut b o (by rintro rfl; rw [e] at hC; cases hC) (hs₂.extBut b o hb (hk b o hbw e))
    have hd3 := (hlD.extBut hs₂.extBut (Ne.symm hLD)).extBut hs₃.extBut hDC
    obtain ⟨o, ho, hod⟩ := Heap.dictOf_iff.mp hd3
    have hDg : h₀.get? D = none := by
      cases e : h₀.get? D with
      | none => rfl
      | some o' => rw [F.keep _ _ e] at hD; cases hD
    have hvs : vs.map intOf = (List.range n).map val := by
      apply List.ext_getElem
      · simp [hlen]
      · intro j h1 h2
        rw [List.length_map] at h1
        obtain ⟨t, e⟩ := hP j vs[j] (List.getElem?_eq_getElem h1)
        simp only [List.getElem_map, List.getElem_range, e, intOf]
    have hF' : StoredAll (fun v k => ∃ t, v = .int k t) (fun _ y => FV y) vs kvs := by
      have e : vs.filter (fun _ => true) = vs := List.filter_eq_self.mpr (fun _ _ => rfl)
      rw [← e]
      exact hF
    obtain ⟨e1, e2⟩ := storedAll_keys hF' (by rw [hvs]; exact hnd)
    refine hQ D o kvs h₃ _ ⟨hn₂.sameBut hs₃ hLC, fun b ob e => keep b ob (Nat.ne_of_lt (Nat.lt_of_lt_of_le (Heap.lt_size e) F.above)) (fun hm => by rw [(hwr b hm).1] at e; cases e) (F.keep b ob e), F.above⟩
      (fun p hp => ?_) hod (e1.trans hvs) e2 hD (fun p hp => hszs _ _ (N p hp).1) rfl
    · rcases List.mem_cons.mp hp with rfl | hp
      · exact ⟨ho, Ne.symm hLD, hDg⟩
      · exact ⟨keep _ _ (N p hp).2.1 (hnw p hp) (N p hp).1, (N p hp).2⟩
/-- an address at the heap's end is not the table of the modules -/
theorem not_sys {p : Program} {loose : List Str} {mean : ExcName → Option Value} {mg mb : Str → Option Value} {h₀ h : Heap} {D : Addr} (T : Top p loose mean mg mb h₀) (hk : ∀ b o, h₀.get? b = some o → h.get? b = some o) (hD : h.objs.size ≤ D) : (D == sysModules) = false := by
  obtain ⟨mc, ⟨o, _, _, ho, _⟩, _⟩ := Top.nolimit T
  have h1 : cStatics < D := Nat.lt_of_lt_of_le (Heap.lt_size (hk _ _ ho)) hD
  rw [beq_eq_false_iff_ne]
  rintro rfl
  exact absurd h1 (by decide)
end
end Mine
end
section
open PySem PySem.W PySem.Calls PyProof.Rows
set_option maxRecDepth 100000
namespace Mine
theorem PairsAre.len {vs : List Value} {tups : List (Addr × Obj)} {es : List (Int × Int)} (h : PairsAre vs tups es) : vs.length = es.length := by
  induction h with
  | nil => rfl
  | cons _ ih => rw [List.length_cons, List.length_cons, ih]
theorem PairsAre.at {vs : List Value} {tups : List (Addr × Obj)} {es : List (Int × Int)} (h : PairsAre vs tups es) : ∀ {i : Nat} {e : Int × Int}, es[i]? = some e → ∃ t tu tv, vs[i]? = some (.ref t) ∧ (t, (⟨.type "tuple", none, .seq #[.int e.1 tu, .int e.2 tv] 0, #[]⟩ : Obj)) ∈ tups := by
  induction h with
  | nil => intro i e he; simp at he
  | @cons t u v tu tv vs tups es _ ih =>
    intro i e he
    cases i with
    | zero =>
      simp only [List.getElem?_cons_zero, Option.some.injEq] at he
      subst he
      exact ⟨t, tu, tv, rfl, .head _⟩
    | succ i =>
      simp only [List.getElem?_cons_succ] at he
      obtain ⟨t', tu', tv', h1, h2⟩ := ih he
      exact ⟨t', tu', tv', by simpa using h1, .tail _ h2⟩
section
variable {prog : Program} {w : World} {A : Around} {E : Value → Shared → Prop} {s : Shared} {h₀ : Heap} {L : Addr} {m : Str → Option Value} {env : Env} {c elt iter : Expr} {xa xb : Str} {pa pb tp pos : Pos} {kk : Nat} {scope : Scope} {cl : List (Str × Addr)} {Q : Value → Shared → Prop}
theorem News.sub6 {h : Heap} {l l' : List (Addr × Obj)} (N : News h₀ L h l) (hs : ∀ p ∈ l', p ∈ l) : News h₀ L h l' := fun p hp => N p (hs p hp)
/-- a test or an item has been evaluated: nothing of the ledger is lost -/
def StepEnd (h₀ : Heap) (L : Addr) (m : Str → Option Value) (s : Shared) (led : List (Addr × Obj)) (s' : Shared) : Prop := ∃ h' tk led', s' = { s with heap := h', toks := tk } ∧ Fr h₀ L h' m ∧ News h₀ L h' led' ∧ ∀ p ∈ led, p ∈ led'
def TstEnd (h₀ : Heap) (L : Addr) (m : Str → Option Value) (s : Shared) (led : List (Addr × Obj)) (b ok : Bool) (s' : Shared) : Prop := ok = b ∧ StepEnd h₀ L m s led s'
def EltEnd (h₀ : Heap) (L : Addr) (m : Str → Option Value) (s : Shared) (led : List (Addr × Obj)) (x : Int) (y : Value) (s' : Shared) : Prop := (∃ t, y = .int x t) ∧ StepEnd h₀ L m s led s'
/-- what stands behind the iter of [elt for xa, xb in .. if c], over a list of pairs -/
def PairSrcC (prog : Program) (w : World) (A : Around) (h₀ : Heap) (L : Addr) (m : Str → Option Value) (env : Env) (c elt : Expr) (xa xb : Str) (scope : Scope) (cl : List (Str × Addr)) (Q : Value → Shared → Prop) (xv : Value) (s₁ : Shared) : Prop :=
  ∃ (S : Addr) (acc : List Value) (cS : Nat) (es : List (Int × Int)) (tups news : List (Addr × Obj)) (tst : Int × Int → Bool) (f : Int × Int → Int),
    xv = .ref S ∧ Fr h₀ L s₁.heap m ∧ News h₀ L s₁.heap news ∧ (S, listOf (List.toArray acc) cS) ∈ news ∧ PairsAre acc tups es ∧ (∀ p ∈ tups, p ∈ news) ∧ es.length ≤ 1000 ∧
    (∀ e ta tb I oI C oC D oD m₂ h tk (E' : Value → Shared → Prop), e ∈ es → LCg.NsObj oC m₂ → m₂ xa = some (.int e.1 ta) → m₂ xb = some (.int e.2 tb) → Fr h₀ L h m → News h₀ L h ((I, oI) :: (C, oC) :: (D, oD) :: news) → (∀ p ∈ news, p.1 < I) → I < D → D < C →
      wpAny (model prog w) A (isTrue c (compEnvC scope cl C env) (eval c (compEnvC scope cl C env))) (TstEnd h₀ L m { s₁ with heap := h, toks := tk } ((I, oI) :: (C, oC) :: (D, oD) :: news) (tst e)) E' { s₁ with heap := h, toks := tk }) ∧
    (∀ e ta tb I oI C oC D oD m₂ h tk (E' : Value → Shared → Prop), e ∈ es → LCg.NsObj oC m₂ → m₂ xa = some (.int e.1 ta) → m₂ xb = some (.int e.2 tb) → Fr h₀ L h m → News h₀ L h ((I, oI) :: (C, oC) :: (D, oD) :: news) → (∀ p ∈ news, p.1 < I) → I < D → D < C →
      wpAny (model prog w) A (eval elt (compEnvC scope cl C env)) (EltEnd h₀ L m { s₁ with heap := h, toks := tk } ((I, oI) :: (C, oC) :: (D, oD) :: news) (f e)) E' { s₁ with heap := h, toks := tk }) ∧
    ∀ D ys cD h' tk, Fr h₀ L h' m → News h₀ L h' ((D, listOf (List.toArray ys) cD) :: news) → (∀ p ∈ news, p.1 < D) → IntsAre ys ((es.filter tst).map f) → Q (.ref D) { s₁ with heap := h', toks := tk }
theorem pairComp (_F₀ : Fr h₀ L s.heap m) (hLe : env.locals = L) (hh : A.handled = none) (hclos : closureFor scope env = pure cl) (hcell : ∀ y ∈ scope.names, y.2 ≠ .cell) (hkind : scope.kind = .function)
    (hnames : ∀ y ∈ scope.names, y.2 = .local → scope.names.lookup y.1 = some .local) (hxa : scope.names.lookup xa = some .local) (hxb : scope.names.lookup xb = some .local) (hab : xa ≠ xb)
    (h : wpAny (model prog w) A (eval iter env) (PairSrcC prog w A h₀ L m env c elt xa xb scope cl Q) E s)
    (hs : ∀ x, foldedSetIterable iter env x = pure x := by intro _; rfl) :
    wpAny (model prog w) A (eval (.ListComp elt [⟨.Tuple [.Name xa pa, .Name xb pb] kk tp, iter, [c], 0⟩] scope pos) env) Q E s := by
  rw [eval_ListComp]
  refine wpAny_comprehension_free (use := none) rfl hs hclos hkind hnames (wpAny_mono h (fun xv s₁ h₁ => ?_) fun _ _ e => e)
  obtain ⟨S, acc, cS, es, tups, news, tst, f, rfl, F, N, hSm, hP, htm, hlen, htest, helt, hQ⟩ := h₁
  have hSl : s₁.heap.IsList S acc.toArray := ⟨_, (N _ hSm).1, rfl, cS, rfl⟩
  refine wpAny_pyIter_list hSl ?_
  have hlt : ∀ p ∈ news, p.1 < s₁.heap.objs.size := fun p hp => Heap.lt_size (N p hp).1
  refine wpAny_newObj_type (wpAny_newFunctionEnv hcell (by intro y hy; simp at hy) (fun h₁ hns₁ hsb₁ => ?_) hkind)
  dsimp only at hns₁ hsb₁ ⊢
  have hD0 : (s₁.heap.push { cls := .type "list_iterator", data := .fields #[.ref S, .int 0 0] }).objs.size = s₁.heap.objs.size + 1 := Heap.size_push _ _
  generalize hH1 : s₁.heap.push { cls := .type "list_iterator", data := .fields #[.ref S, .int 0 0] } = H1 at hns₁ hsb₁ hD0 ⊢
  have hC0 : (H1.push { cls := .type "list", dict := none, data := .seq ([] : List Value).toArray }).objs.size = s₁.heap.objs.size + 1 + 1 := by rw [Heap.size_push, hD0]
  have hDg : (H1.push { cls := .type "list", dict := none, data := .seq ([] : List Value).toArray }).get? H1.objs.size = some _ := Heap.get?_push_size _ rfl
  have hIg : (H1.push { cls := .type "list", dict := none, data := .seq ([] : List Value).toArray }).get? s₁.heap.objs.size = some { cls := .type "list_iterator", data := .fields #[.ref S, .int 0 0] } := Heap.get?_push_of_some _ (hH1 ▸ Heap.get?_push_size _ rfl)
  have up0 : ∀ b o, s₁.heap.get? b = some o → (H1.push { cls := .type "list", dict := none, data := .seq ([] : List Value).toArray }).get? b = some o := fun b o e => Heap.get?_push_of_some _ (hH1 ▸ Heap.get?_push_of_some _ e)
  generalize hH2 : H1.push { cls := .type "list", dict := none, data := .seq ([] : List Value).toArray } = H2 at hns₁ hsb₁ hC0 hDg hIg up0 ⊢
  have hDe : H1.objs.size = s₁.heap.objs.size + 1 := hD0
  have hCe : H2.objs.size = s₁.heap.objs.size + 1 + 1 := hC0
  generalize H1.objs.size = D at *
  generalize H2.objs.size = C at *
  have hIlt : s₁.heap.objs.size < D := by rw [hDe]; exact Nat.lt_succ_self _
  have hDC : D < C := by rw [hCe, hDe]; exact Nat.lt_succ_self _
  have up1 : ∀ b o, b < C → H2.get? b = some o → h₁.get? b = some o := fun b o hb e => hsb₁.extBut b o (Nat.ne_of_lt hb) (Heap.get?_push_of_some _ e)
  have old : ∀ b o, s₁.heap.get? b = some o → h₁.get? b = some o := fun b o e => up1 b o (Nat.lt_trans (Heap.lt_size e) (Nat.lt_trans hIlt hDC)) (up0 b o e)
  have fresh₀ : ∀ a, s₁.heap.objs.size ≤ a → h₀.get? a = none := fun a ha => by
    cases e : h₀.get? a with
    | none => rfl
    | some o' => exact absurd (Heap.lt_size (F.keep a o' e)) (Nat.not_lt.mpr ha)
  have hLlt : L < s₁.heap.objs.size := F.ns.lt
  obtain ⟨oC, hoC, hnsC⟩ := LCg.ns_obj hns₁
  have F1 : Fr h₀ L h₁ m := F.kept old
  have N1 : News h₀ L h₁ ((s₁.heap.objs.size, { cls := .type "list_iterator", data := .fields #[.ref S, .int 0 0] }) :: (C, oC) :: (D, listOf ([] : List Value).toArray 0) :: news) := fun p hp => by
    rcases List.mem_cons.mp hp with rfl | hp
    · exact ⟨up1 _ _ (Nat.lt_trans hIlt hDC) hIg, Nat.ne_of_gt hLlt, fresh₀ _ (Nat.le_refl _)⟩
    rcases List.mem_cons.mp hp with rfl | hp
    · exact ⟨hoC, Nat.ne_of_gt (Nat.lt_trans hLlt (Nat.lt_trans hIlt hDC)), fresh₀ _ (Nat.le_of_lt (Nat.lt_trans hIlt hDC))⟩
    rcases List.mem_cons.mp hp with rfl | hp
    · exact ⟨up1 _ _ hDC hDg, Nat.ne_of_gt (Nat.lt_trans hLlt hIlt), fresh₀ _ (Nat.le_of_lt hIlt)⟩
    · exact ⟨old _ _ (N p hp).1, (N p hp).2⟩
  have hself : (h₁).IsListIter s₁.heap.objs.size S 0 := ⟨_, (N1 _ (.head _)).1, rfl, rfl⟩
  suffices loop : codeAny (model prog w) A (.compLoop (.ListComp elt [⟨.Tuple [.Name xa pa, .Name xb pb] kk tp, iter, [c], 0⟩] scope pos) 0 (.ref s₁.heap.objs.size) (.ref D) (compEnvC scope cl C env))
      (compPost (model prog w) A E none Q (.ref D) C) { s₁ with heap := h₁, toks := s₁.toks + ([] : List (Str × Value)).length } from
    codeAny_compStart_list loop (wpAny_pyIter_listiter hself loop)
  have hkf : (compEnvC scope cl C env).scope.kind = .function := by simp [compEnvC, relabel, hkind]
  have hpp : ((compEnvC scope cl C env).scope.kind == .class || ((compEnvC scope cl C env).scope.kind == .module && (compEnvC scope cl C env).locals != (compEnvC scope cl C env).globals)) = false := by rw [hkf]; rfl
  have hIS : ∀ p ∈ news, p.1 ≠ s₁.heap.objs.size ∧ p.1 ≠ C ∧ p.1 ≠ D := fun p hp => ⟨Nat.ne_of_lt (hlt p hp), Nat.ne_of_lt (Nat.lt_trans (hlt p hp) (Nat.lt_trans hIlt hDC)), Nat.ne_of_lt (Nat.lt_trans (hlt p hp) hIlt)⟩
  refine kct_loop (fun n s => ∃ (i : Nat) (ys : List Value) (cD : Nat) (oI oC : Obj) (m' : Str → Option Value) (h : Heap) (tk : Nat), s = { s₁ with heap := h, toks := tk } ∧ Fr h₀ L h m ∧ News h₀ L h ((s₁.heap.objs.size, oI) :: (C, oC) :: (D, listOf (List.toArray ys) cD) :: news) ∧
      oI.cls = .type "list_iterator" ∧ oI.data = .fields #[.ref S, .int i 0] ∧ LCg.NsObj oC m' ∧ IntsAre ys (((es.take i).filter tst).map f) ∧ i ≤ es.length ∧ n = es.length - i) ?_ es.length
    ⟨0, [], 0, _, oC, _, h₁, _, rfl, F1, N1, rfl, rfl, hnsC, .nil, Nat.zero_le _, rfl⟩
  rintro n s' ⟨i, ys, cD, oI, oC', m', h, tk, rfl, F', N', hI1, hI2, hnsC', hys, hi, rfl⟩
  have hli : h.IsListIter s₁.heap.objs.size S i := ⟨oI, (N' _ (.head _)).1, hI1, hI2⟩
  have hSm' : (S, listOf (List.toArray acc) cS) ∈ (s₁.heap.objs.size, oI) :: (C, oC') :: (D, listOf (List.toArray ys) cD) :: news := .tail _ (.tail _ (.tail _ hSm))
  have hl : h.IsList S acc.toArray := ⟨_, (N' _ hSm').1, rfl, cS, rfl⟩
  rcases Nat.lt_or_ge i es.length with hilt | hige
  · obtain ⟨e, he⟩ : ∃ e, es[i]? = some e := ⟨es[i], List.getElem?_eq_getElem hilt⟩
    obtain ⟨t, tu, tv, ha1, ha2⟩ := hP.at he
    have htn := htm _ ha2
    refine wpAny_pyNext_list_item hli hl (by rw [List.getElem?_toArray]; exact ha1) fun h4 hli4 hs4 => ?_
    dsimp only
    refine wpAny_letOwnedTupleGo_listiter hli4 ?_
    have up4 : ∀ p ∈ (C, oC') :: (D, listOf (List.toArray ys) cD) :: news, h4.get? p.1 = some p.2 := fun p hp => by
      refine (hs4.2 _ ?_).trans (N' p (.tail _ hp)).1
      rcases List.mem_cons.mp hp with rfl | hp
      · exact Nat.ne_of_gt (Nat.lt_trans hIlt hDC)
      rcases List.mem_cons.mp hp with rfl | hp
      · exact Nat.ne_of_gt hIlt
      · exact (hIS p hp).1
    have F4 : Fr h₀ L h4 m := ⟨F'.ns.at' fun o q => (hs4.2 _ (Nat.ne_of_lt hLlt)).trans q, fun b o q => (hs4.2 b (fun z => by rw [z, fresh₀ _ (Nat.le_refl _)] at q; cases q)).trans (F'.keep b o q), F'.above⟩
    obtain ⟨oI4, hoI4, hI41, hI42⟩ := hli4
    refine kcp_assign (m := m') hh ⟨_, up4 _ (.tail _ (.tail _ htn)), rfl, 0, rfl⟩ (lookup_relabel_local hxa) (lookup_relabel_local hxb) hpp (hnsC'.ns (up4 _ (.head _))) fun h5 tk5 hn5 up5 => ?_
    obtain ⟨oC5, hoC5, hnsC5⟩ := LCg.ns_obj hn5
    have F5 : Fr h₀ L h5 m := ⟨F4.ns.at' fun o q => up5 _ o (Nat.ne_of_lt (Nat.lt_trans hLlt (Nat.lt_trans hIlt hDC))) q, fun b o q => up5 b o (fun z => by rw [show b = C from z, fresh₀ _ (Nat.le_of_lt (Nat.lt_trans hIlt hDC))] at q; cases q) (F4.keep b o q), F4.above⟩
    have N5 : News h₀ L h5 ((s₁.heap.objs.size, oI4) :: (C, oC5) :: (D, listOf (List.toArray ys) cD) :: news) := fun p hp => by
      rcases List.mem_cons.mp hp with rfl | hp
      · exact ⟨up5 _ _ (Nat.ne_of_lt (Nat.lt_trans hIlt hDC)) hoI4, (N' _ (.head _)).2⟩
      rcases List.mem_cons.mp hp with rfl | hp
      · exact ⟨hoC5, (N' (C, oC') (.tail _ (.head _))).2⟩
      · refine ⟨up5 _ _ ?_ (up4 p (.tail _ hp)), (N' p (.tail _ (.tail _ hp))).2⟩
        rcases List.mem_cons.mp hp with rfl | hp
        · exact Nat.ne_of_lt hDC
        · exact (hIS p hp).2.1
    have hem := List.mem_of_getElem? he
    refine wpAny_mono (htest e tu tv _ _ _ _ _ _ _ h5 tk5 _ hem hnsC5 ((if_neg hab).trans (if_pos rfl)) (if_pos rfl) F5 N5 hlt hIlt hDC) (fun ok s₃ h₃ => ?_) fun _ _ z => z
    obtain ⟨rfl, h6, tk6, led6, rfl, F6, N6, hsub6⟩ := h₃
    have N6' := News.sub6 N6 hsub6
    cases hte : tst e with
    | false =>
      refine ⟨es.length - (i + 1), by omega, i + 1, ys, cD, oI4, oC5, _, h6, tk6, rfl, F6, N6', hI41, hI42, hnsC5, ?_, hilt, rfl⟩
      rw [take_at he, List.filter_append, List.filter_cons_of_neg (by simp [hte])]
      simpa using hys
    | true =>
      refine wpAny_mono (helt e tu tv _ _ _ _ _ _ _ h6 tk6 _ hem hnsC5 ((if_neg hab).trans (if_pos rfl)) (if_pos rfl) F6 N6' hlt hIlt hDC) (fun y s₄ h₄ => ?_) fun _ _ z => z
      obtain ⟨⟨ty, rfl⟩, h7, tk7, led7, rfl, F7, N7, hsub7⟩ := h₄
      have N7' : News h₀ L h7 ((D, listOf (List.toArray ys) cD) :: (s₁.heap.objs.size, oI4) :: (C, oC5) :: news) := News.sub6 N7 fun p hp => hsub7 p (by
        simp only [List.mem_cons] at hp ⊢
        rcases hp with h | h | h | h <;> simp only [h, true_or, or_true])
      have hyl : ys.length ≤ 1000 := by
        have h1 := hys.length
        rw [List.length_map] at h1
        have h2 := List.length_filter_le tst (es.take i)
        have h3 := List.length_take_le i es
        have h4 : (es.take i).length ≤ es.length := by rw [List.length_take]; omega
        omega
      refine append_K F7 N7' (.head fun p hp => ?_) (fun h8 F8 N8 => ?_) (by rw [List.size_toArray, sizeLine_eq]; omega)
      · rcases List.mem_cons.mp hp with rfl | hp
        · exact Nat.ne_of_lt hIlt
        rcases List.mem_cons.mp hp with rfl | hp
        · exact Nat.ne_of_gt hDC
        · exact (hIS p hp).2.2
      refine ⟨es.length - (i + 1), by omega, i + 1, ys ++ [.int (f e) ty], cD + 1, oI4, oC5, _, h8, tk7, rfl, F8, ?_, hI41, hI42, hnsC5, ?_, hilt, rfl⟩
      · rw [show (ys ++ [Value.int (f e) ty]).toArray = ys.toArray.push (.int (f e) ty) by simp]
        exact News.sub6 N8 fun p hp => by
          simp only [List.mem_cons] at hp ⊢
          rcases hp with h | h | h | h <;> simp only [h, true_or, or_true]
      · rw [take_at he, List.filter_append, List.filter_cons_of_pos (by simp [hte]), List.filter_nil, List.map_append]
        exact hys.append (.cons (f e) ty .nil)
  · refine wpAny_pyNext_list_end hh hli hl (by rw [List.getElem?_toArray]; exact List.getElem?_eq_none (by rw [hP.len]; exact hige)) fun h4 hext => ?_
    dsimp only
    rw [List.take_of_length_le hige] at hys
    have hC4 := hext C oC' (Nat.ne_of_gt (Nat.lt_trans hIlt hDC)) (N' (C, oC') (.tail _ (.head _))).1
    refine ⟨m', hnsC'.ns hC4, fun h9 hs9 => ?_⟩
    have keep : ∀ b o, b ≠ s₁.heap.objs.size → b ≠ C → h.get? b = some o → h9.get? b = some o := fun b o b1 b2 q => (hs9.2 b b2).trans (hext b o b1 q)
    refine hQ D ys cD h9 _ ⟨F'.ns.at' fun o q => keep _ o (Nat.ne_of_lt hLlt) (Nat.ne_of_lt (Nat.lt_trans hLlt (Nat.lt_trans hIlt hDC))) q, fun b o q => keep b o (fun z => by rw [z, fresh₀ _ (Nat.le_refl _)] at q; cases q) (fun z => by rw [z, fresh₀ _ (Nat.le_of_lt (Nat.lt_trans hIlt hDC))] at q; cases q) (F'.keep b o q), F'.above⟩
      (fun p hp => ?_) (fun p hp => Nat.lt_trans (hlt p hp) hIlt) hys
    refine ⟨keep _ _ ?_ ?_ (N' p (.tail _ (.tail _ hp))).1, (N' p (.tail _ (.tail _ hp))).2⟩
    · rcases List.mem_cons.mp hp with rfl | hp
      · exact Nat.ne_of_gt hIlt
      · exact (hIS p hp).1
    · rcases List.mem_cons.mp hp with rfl | hp
      · exact Nat.ne_of_lt hDC
      · exact (hIS p hp).2.1
/-- list.extend by a made list -/
theorem extend_pair {Q : Value → Shared → Prop} {D b : Addr} {vs ys : List Value} {n n2 : Nat} {pre post : List (Addr × Obj)} (F : Fr h₀ L s.heap m) (N : News h₀ L s.heap (pre ++ (D, listOf (List.toArray vs) n) :: post)) (hb : (b, listOf (List.toArray ys) n2) ∈ pre ++ (D, listOf (List.toArray vs) n) :: post)
    (h1 : ∀ p ∈ pre, p.1 ≠ D) (h2 : ∀ p ∈ post, p.1 ≠ D) (hl : vs.length ≤ 1000) (hl2 : ys.length ≤ 1000)
    (h : ∀ h' c, Fr h₀ L h' m → News h₀ L h' (pre ++ (D, listOf (List.toArray (vs ++ ys)) c) :: post) → Q .none { s with heap := h' }) : wpAny (model prog w) A (call (.builtin "list.extend") [.ref D, .ref b]) Q E s := by
  have hU : ∀ o o' : Obj, Upd D o o' (pre ++ (D, o) :: post) (pre ++ (D, o') :: post) := by
    intro o o'
    clear N hb h
    induction pre with
    | nil => exact .head h2
    | cons p r ih => exact .tail (h1 p (.head _)) (ih fun q hq => h1 q (.tail _ hq))
  have hd : ¬(!(List.toArray vs).isEmpty && Builtin.List.listTooLong ((List.toArray vs).size + (List.toArray ys).size)) = true := by
    have hs : sizeLine = 100000000 ∨ 2000 ≤ sizeLine := .inr (by rw [sizeLine_eq]; decide)
    simp [Builtin.List.listTooLong]
    omega
  have hz : (List.toArray vs).toList.length ≤ sizeLine := by rw [sizeLine_eq]; simp; omega
  have hz2 : (List.toArray vs).size + (List.toArray ys).size ≤ sizeLine + 1 := by rw [sizeLine_eq]; simp; omega
  cases ys with
  | nil =>
    refine kxn_extend F N hb rfl (hU _ _) hd hz hz2 fun h' F' N' => h h' n F' ?_
    simpa using N'
  | cons y r => exact kl_extend F N hb (l := vs ++ y :: r) (by simp) (by simp) (hU _ _) hd hz hz2 fun h' F' N' => h h' _ F' N'
end
end Mine
end
section
open PySem PySem.W PySem.Calls PyProof.Rows
namespace Mine
local macro_rules | `(tactic| walk_at "ZZ0") => `(tactic| skip)
local macro_rules | `(tactic| walk_at "ZZ1") => `(tactic| skip)
local macro_rules | `(tactic| walk_at "ZZ2") => `(tactic| skip)
local macro_rules | `(tactic| walk_at "ZZ3") => `(tactic| skip)
local macro_rules | `(tactic| walk_at "ZZ4") => `(tactic| skip)
local macro_rules | `(tactic| walk_at "ZZ5") => `(tactic| skip)
local macro_rules | `(tactic| walk_at "ZZ6") => `(tactic| skip)
local macro_rules | `(tactic| walk_at "ZZ7") => `(tactic| skip)
local macro_rules | `(tactic| walk_at "ZZ8") => `(tactic| skip)
local macro_rules | `(tactic| walk_at "ZZ9") => `(tactic| skip)
local macro_rules | `(tactic| walk_at "ZZ10") => `(tactic| skip)
local macro_rules | `(tactic| walk_at "ZZ11") => `(tactic| skip)
local macro_rules | `(tactic| walk_at "ZZ12") => `(tactic| skip)
local macro_rules | `(tactic| walk_at "ZZ13") => `(tactic| skip)
local macro_rules | `(tactic| walk_at "ZZ14") => `(tactic| skip)
local macro_rules | `(tactic| walk_at "ZZ15") => `(tactic| skip)
local macro_rules | `(tactic| walk_at "ZZ16") => `(tactic| skip)
local macro_rules | `(tactic| walk_at "ZZ17") => `(tactic| skip)
local macro_rules | `(tactic| walk_at "ZZ18") => `(tactic| skip)
local macro_rules | `(tactic| walk_at "ZZ19") => `(tactic| skip)
local macro_rules | `(tactic| walk_at "ZZ20") => `(tactic| skip)
local macro_rules | `(tactic| walk_at "ZZ21") => `(tactic| skip)
local macro_rules | `(tactic| walk_at "ZZ22") => `(tactic| skip)
local macro_rules | `(tactic| walk_at "ZZ23") => `(tactic| skip)
local macro_rules | `(tactic| walk_at "ZZ24") => `(tactic| skip)
local macro_rules | `(tactic| walk_at "ZZ25") => `(tactic| skip)
local macro_rules | `(tactic| walk_at "ZZ26") => `(tactic| skip)
local macro_rules | `(tactic| walk_at "ZZ27") => `(tactic| skip)
local macro_rules | `(tactic| walk_at "ZZ28") => `(tactic| skip)
local macro_rules | `(tactic| walk_at "ZZ29") => `(tactic| skip)
theorem rs12 {M : Model} {A : Around} {E : Value → Shared → Prop} {s : Shared} {env : Env} {pos : Pos} {Q : Flow → Shared → Prop} (h : wpAny M A (exec (.Pass pos) env) Q E s) : wpAny M A (exec (.Pass pos) env) Q E s := by
  w_top off
  first | (walk1; fail) | exact h
end Mine
end
section
open PySem PySem.W PySem.Calls PyProof.Rows
set_option maxRecDepth 100000
set_option maxHeartbeats 2000000
set_option rowWalk.seconds 0
namespace Mine
local macro_rules | `(tactic| k_all) => `(tactic| assumption)
local macro_rules | `(tactic| walk_at "call builtin:len") => `(tactic| (k_here; (with_reducible show wpAny _ _ (call (Value.builtin "len") [Value.ref _]) _ _ _); k_dflt (refine kda_len (knd := PySem.intKind _ _) (by k_asm) (by k_mem) (by k_asm) (by k_asm) (by omega) ?_)))
local macro_rules | `(tactic| walk_at "getAttr ref") => `(tactic| (k_here; k_dflt (refine' getS_own ?k1 ?k2 ?k3 ?k4 ?k5 ?k6 ?k7 ?k8 ?k9 ?_; (case k1 => k_asm); (case k2 => k_asm); (case k3 => k_inst); (case k4 => k_is); (case k5 => k_is); (case k6 => k_is); (case k7 => k_is); (case k8 => k_get); (case k9 => k_handed); k_whole)))
local macro_rules | `(tactic| walk_at "getMethod ref") => `(tactic| (k_here; k_dflt (first | ((with_reducible show wpAny _ _ (getMethod _ (Str.ofString "func") _) _ _ _); refine' kmu_own ?k1 ?k2 ?k3 ?k4 ?k5 ?_; (case k1 => k_asm); (case k2 => k_asm); (case k3 => k_inst); (case k4 => k_is); (case k5 => k_is); k_whole) | (refine' methS_inst ?k1 ?k2 ?k3 ?k4 ?k5 ?k6 ?k7 ?_; (case k1 => k_asm); (case k2 => k_asm); (case k3 => k_inst); (case k4 => k_is); (case k5 => k_is); (case k6 => k_is); (case k7 => k_get); k_whole) | (refine' dictS_getm (News.get (by k_asm) (by k_mem)) ?_; k_whole))))
local macro_rules | `(tactic| walk_at "call builtin:dict.get") => `(tactic| (k_here; (with_reducible show wpAny _ _ (call (Value.builtin "dict.get") [Value.ref _, Value.str _ _, _]) _ _ _); k_dflt (refine' dictS_get2 (News.get (by k_asm) (by k_mem)) ?k ?y ?l ?_; (case k => assumption); (case y => assumption); (case l => k_get); k_whole)))
local macro_rules | `(tactic| walk_at "setItem ref str") => `(tactic| (k_here; k_dflt (refine' dictS_set ?F ?N ?U ?k ?l ?z ?_; (case F => k_asm); (case N => k_asm); (case U => k_upd); (case k => assumption); (case l => k_get); (case z => simp); k_whole); intro h' F' N'))
local macro_rules | `(tactic| walk_at "call builtin:hasattr") => `(tactic| (k_here; k_dflt (refine' hasattr_K ?F ?X ?N ?I rfl ?g ?hh ?ha ?c ?l ?cd ?fo ?n ?z ?mo ?_; (case F => k_asm); (case X => k_asm); (case N => k_asm); (case I => k_inst); (case g => k_is); (case hh => k_is); (case ha => k_is); (case c => decide +kernel); (case l => (refine lookS ?_; k_get)); (case cd => k_is); (case fo => decide +kernel); (case n => decide +kernel); (case z => decide +kernel); (case mo => k_is); k_whole); intro h' tk' F' N'))
abbrev DEf (w : World) (t1 t2 t3 t4 t5 : Tok) (ga na aa ev wv : Addr) : List DictEntry := DEe w t1 t2 t3 t4 ga na aa ev ++ [⟨PyData.keyHash w.params (Str.ofString "degree"), .str (Str.ofString "degree") t5, .ref wv⟩]
abbrev DEw (w : World) (u1 u2 u3 u4 : Tok) (aa : Addr) : List DictEntry := [⟨PyData.keyHash w.params (Str.ofString "_succ"), .str (Str.ofString "_succ") u1, .ref aa⟩, ⟨PyData.keyHash w.params (Str.ofString "_pred"), .str (Str.ofString "_pred") u2, .ref aa⟩, ⟨PyData.keyHash w.params (Str.ofString "_nodes"), .str (Str.ofString "_nodes") u3, .ref aa⟩, ⟨PyData.keyHash w.params (Str.ofString "_weight"), .str (Str.ofString "_weight") u4, .none⟩]
theorem keys_DEe (w : World) (t1 t2 t3 t4 : Tok) (ga na aa ev : Addr) : PySem.KeysOf (PySem.strKind PP w) (DEe w t1 t2 t3 t4 ga na aa ev).toArray := keys_lit PP w [(Str.ofString "graph", t1, .ref ga), (Str.ofString "_node", t2, .ref na), (Str.ofString "_adj", t3, .ref aa), (Str.ofString "edges", t4, .ref ev)]
theorem degree_get {w : World} {mean : ExcName → Option Value} {mg mb : Str → Option Value} {gd : Option (List Code)} {cn : Str} {nms : List (Str × NameKind)} {sg sc : Bool} {mo : List (Str × Const)} {a : Addr} {ccd : Value} {cl : List (Str × Addr)} {outer : List Env} {A₀ : Around} {base h₀ : Heap} {L : Addr} {m : Str → Option Value} {rest : List (Addr × Obj)} {s : Shared}
    {E : Value → Shared → Prop} {Q : Value × List Value → Shared → Prop} {pl : Sem Bool} {g d ga na aa ev : Addr} {t1 t2 t3 t4 : Tok}
    (B : Below A₀ base outer h₀) (F : Fr h₀ L s.heap m) (X : (hd.heap_39 w.params).In h₀) (N : News h₀ L s.heap ((g, instObj 629 d) :: (d, dictS (DEe w t1 t2 t3 t4 ga na aa ev) 4) :: rest)) (T : Top TP LS mean mg mb h₀)
    (hds : (d == sysModules) = false) (hgd : g ≠ d) (hrd : ∀ p ∈ rest, p.1 ≠ d)
    (h : ∀ h' tk wv wd u1 u2 u3 u4 t5, Fr h₀ L h' m → News h₀ L h' ((wv, instObj 154 wd) :: (wd, dictOf (DEw w u1 u2 u3 u4 aa) 4) :: (g, instObj 629 d) :: (d, dictS (DEf w t1 t2 t3 t4 t5 ga na aa ev wv) 5) :: rest) → (wd < wv ∧ g < wd ∧ d < wd ∧ AllLt wd rest) → Q (.ref wv, []) { s with heap := h', toks := tk }) :
    wpAny (model PP w) (ktrTop 305 16 gd cn { kind := .function, names := nms, isGenerator := sg, isCoroutine := sc, more := mo } L a ccd cl outer) (getMethod (.ref g) "degree" pl) Q E s := by
  refine of_mk ?_
  k_fill
  intro _
  have hkeys := keys_DEe w t1 t2 t3 t4 ga na aa ev
  have hI : InstAt s.heap g (instObj 629 d) 629 (some (dictS (DEe w t1 t2 t3 t4 ga na aa ev) 4)) := ⟨(N _ (.head _)).1, rfl, rfl, (N _ (.tail _ (.head _))).1⟩
  refine method_usual (r := some (.ref 566)) (X.keeps F.keep) hI (by k_is) (by k_is) (by k_is) (by kernel_rfl) ?_
  refine get_cprop (a := 566) (f := 321) F X hI (by k_is) (by k_is) (by k_is) (by k_is) (by k_is) (by decide +kernel) (lookS (show getL (Str.ofString "degree") (DEe w t1 t2 t3 t4 ga na aa ev) = some none by k_get)) ?_
  show wpAny _ (ktrTop 305 17 gd cn { kind := .function, names := nms, isGenerator := sg, isCoroutine := sc, more := mo } L a ccd cl outer) _ _ _ _
  k_steps
  rename_i g' L' h' FG' F' N' B' X' T' tk'
  have hI2 : InstAt h' g (instObj 629 d) 629 (some (dictS (DEe w t1 t2 t3 t4 ga na aa ev) 4)) := ⟨(N' _ (.head _)).1, rfl, rfl, (N' _ (.tail _ (.head _))).1⟩
  refine get_bind (X'.keeps F'.keep) hI2 (by k_is) (findObj_data (by rfl) (a := .ref 630) (g := .builtin "getset_descriptor.__get__") (by k_is) (by k_is) (by k_is)) (by k_is) ?_
  refine wpAny_call (dictGet_A (X'.keeps F'.keep) hI2 (by k_is) (by k_is) (by k_is) (by k_is) (by k_is) rfl (N' _ (.tail _ (.head _))).1 rfl ?_)
  dsimp only
  refine handed_on rfl ?_
  obtain ⟨F2, N2⟩ := slot_K (o := dictS (DEe w t1 t2 t3 t4 ga na aa ev) 4) (news' := (g, instObj 629 d) :: (d, dictS (DEe w t1 t2 t3 t4 ga na aa ev) 4) :: rest) F' N' (.tail hgd (.head hrd)) rfl
  generalize h'.update d slotted = h2 at F2 N2 ⊢
  clear F' N' hI2 hI
  k_steps
  rename_i l1 l2 _ _ _ _ _ _ _ _ _ _ _ _ _ _ _ _ _ _ _ _ _ _ _ _ _ _ _ _ _ _ _ _ kF kN Tc kX
  exact h _ _ _ _ _ _ _ _ _ kF kN ⟨l2, l1⟩
end Mine
end
section
open PySem PySem.W PySem.Calls PyProof.Rows
set_option maxRecDepth 100000
namespace Mine
section
variable {prog : Program} {w : World} {A A₀ : Around} {E : Value → Shared → Prop} {s : Shared} {K : Frag} {C L : Addr} {h₀ base : Heap} {m mg mb : Str → Option Value} {news : List (Addr × Obj)} {p : Program} {loose : List Str} {mean : ExcName → Option Value}
theorem kinds_cells {scope : Scope} {binds : List (Str × Value)} (h : (binds.all fun y => scope.names.lookup y.1 == some .local || scope.names.lookup y.1 == some .cell) = true) (n : Addr) :
    ∀ x ∈ binds, scope.names.lookup x.1 = some .local ∨ (scope.names.lookup x.1 = some .cell ∧ ((cellsFrom n scope.names []).lookup x.1).isSome = true) := fun x hx => by
  have := List.all_eq_true.mp h x hx
  rcases Bool.or_eq_true_iff.mp this with q | q
  · exact .inl (by simpa using q)
  · have q' : scope.names.lookup x.1 = some .cell := by simpa using q
    exact .inr ⟨q', cellsFrom_some _ _ _ (.inl q')⟩
/-- a def with yield and cells is called: the generator is made -/
theorem codeGen_defC {env : Env} {outer : List Env} {R : Result → Shared → Prop} {name qual : Str} {params : Arguments} {body : List Stmt} {scope : Scope} {dV kV doc pm cdv ct oc : Value} {an od : Option Addr} {osl : Array (Option Value)} {f : Addr} {args : Args} {binds : List (Str × Value)}
    (B : Below A₀ base outer h₀) (F : Fr h₀ L s.heap m) (X₀ : K.In h₀) (N : News h₀ L s.heap news) (T : Top p loose mean mg mb h₀) (hA : A.frames = some (env :: outer)) (hf : env.frame = some L) (hke : env.scope.kind = .function)
    (ho : K.lookup f = some ⟨oc, od, .func (fnOf name qual params body scope dV kV doc pm an cdv ct), osl⟩) (hcd : codeIn K cdv qual = true) (hroom : A.depth < recursionLimit)
    (hbind : BindsTo s (fnOf name qual params body scope dV kV doc pm an cdv ct) args binds) (hkind : (binds.all fun y => scope.names.lookup y.1 == some .local || scope.names.lookup y.1 == some .cell) = true)
    (hnd : ((cellsFrom 0 scope.names []).map (·.1)).Nodup)
    (h : ∀ g L' h₁ tk cells, Fr g L' h₁ (bindL (envOfC qual scope L' f cdv).kindOf binds fun _ => none) → News g L' h₁ (cells ++ news) →
      CellsAre (bindC (envOfC qual scope L' f cdv).kindOf binds fun _ => none) (cellsFrom (L' + 1) scope.names []) cells → Below A base (env :: outer) g → K.In g → Top p loose mean mg mb g → (∀ b o, s.heap.get? b = some o → h₁.get? b = some o) → L' < h₁.objs.size → s.heap.get? L' = none → s.heap.objs.size ≤ L' → (∀ p ∈ news, g.get? p.1 = none) →
      R (.ok (.ret (.ref h₁.objs.size))) { s with heap := h₁.push { cls := .type "generator", data := .fields #[.int s.gens.size 0, .str name tk, .str qual (tk + 1)] }, gens := s.gens.push (.fresh (.func body (envOfC qual scope L' f cdv))), toks := tk + 1 + 1 })
    (hco : scope.isCoroutine = false) (hgen : scope.isGenerator = true) (hk : scope.kind = .function) : codeAny (model prog w) A (.call (.ref f) args) R s := by
  obtain ⟨FG, BG, st, lv⟩ := groundX (R := R) B F N hA hf hke
  have hl := T.nolimit.keeps F.keep
  refine codeAny_call_generator hroom ((X₀.keeps F.keep) _ _ ho) rfl hco hgen rfl (codeRec_of (X₀.keeps F.keep) hcd) (hbind _ _ _ _ ?_)
  refine wpAny_newFunctionEnv_cells hk (kinds_cells hkind _) fun env' he s' x => ?_
  subst he
  refine ⟨hl.keeps x.toInCall.keep, ?_⟩
  obtain ⟨h₁, tk, rfl, _⟩ := x.done
  have hk₁ := x.toInCall.keep
  obtain ⟨cells, NC, Y⟩ := Cl.news (h₀ := s.heap) (Nat.le_refl _) fun n c hm => ⟨x.cell n c (lookup_of_mem_nodup (cellsFrom_names scope.names 0 (s.heap.objs.size + 1) [] [] rfl ▸ hnd) hm), x.above n c hm⟩
  have hnone : s.heap.get? s.heap.objs.size = none := by
    cases q : s.heap.get? s.heap.objs.size with
    | none => rfl
    | some o => exact absurd (Heap.lt_size q) (Nat.lt_irrefl _)
  refine h _ s.heap.objs.size h₁ tk cells ⟨x.toInCall.ns, fun b o e => hk₁ b o (of_hideAll _ e), Nat.le_of_eq (hideAll_size _ _)⟩ (fun p hp => ?_) Y BG (X₀.keeps st) (T.keeps st) hk₁ x.toInCall.ns.lt hnone (Nat.le_refl _) fun p hp => hideAll_none _ (List.mem_map_of_mem hp)
  rcases List.mem_append.mp hp with hp | hp
  · refine ⟨(NC p hp).1, (NC p hp).2.1, ?_⟩
    cases q : (hideAll s.heap (news.map (·.1))).get? p.1 with
    | none => rfl
    | some o => have := of_hideAll _ q; rw [(NC p hp).2.2] at this; cases this
  · exact ⟨hk₁ _ _ (N p hp).1, Nat.ne_of_lt (Heap.lt_size (N p hp).1), hideAll_none _ (List.mem_map_of_mem hp)⟩
/-- the entry of a function of the text that has cells, guarded -/
theorem codeG_defC {env : Env} {outer : List Env} {R : Result → Shared → Prop} {name qual : Str} {params : Arguments} {body : List Stmt} {scope : Scope} {dV kV doc pm cdv ct oc : Value} {an od : Option Addr} {osl : Array (Option Value)} {f : Addr} {args : Args} {binds : List (Str × Value)}
    (B : Below A₀ base outer h₀) (F : Fr h₀ L s.heap m) (X₀ : K.In h₀) (N : News h₀ L s.heap news) (T : Top p loose mean mg mb h₀) (hA : A.frames = some (env :: outer)) (hf : env.frame = some L) (hke : env.scope.kind = .function)
    (ho : K.lookup f = some ⟨oc, od, .func (fnOf name qual params body scope dV kV doc pm an cdv ct), osl⟩) (hcd : codeIn K cdv qual = true) (hroom : A.depth < recursionLimit)
    (hbind : BindsTo s (fnOf name qual params body scope dV kV doc pm an cdv ct) args binds) (hkind : (binds.all fun y => scope.names.lookup y.1 == some .local || scope.names.lookup y.1 == some .cell) = true)
    (hnd : ((cellsFrom 0 scope.names []).map (·.1)).Nodup)
    (h : ∀ g L' h₁ tk cells, Fr h₀ L g m → Fr g L' h₁ (bindL (envOfC qual scope L' f cdv).kindOf binds fun _ => none) → News g L' h₁ (cells ++ news) →
      CellsAre (bindC (envOfC qual scope L' f cdv).kindOf binds fun _ => none) (cellsFrom (L' + 1) scope.names []) cells → Below A base (env :: outer) g → K.In g → Top p loose mean mg mb g → (∀ p ∈ news, p.1 < L') →
      wpG (model prog w) (A.deeper (envOfC qual scope L' f cdv)) (execs body (envOfC qual scope L' f cdv))
        (fun fl s' => LeaveK h₀ L m g R (match fl with | .ret v => v | _ => .none) s')
        (fun e s' => wpAny (model prog w) (A.deeper (envOfC qual scope L' f cdv)) (leaving (envOfC qual scope L' f cdv) e) (fun _ s'' => R (.error e) s'') (fun e' s'' => R (.error e') s'') s')
        { s with heap := h₁, toks := tk })
    (hco : scope.isCoroutine = false) (hgen : scope.isGenerator = false) (hk : scope.kind = .function) : codeG (model prog w) A (.call (.ref f) args) R s := by
  obtain ⟨FG, BG, st, lv⟩ := groundX (R := R) B F N hA hf hke
  have hl := T.nolimit.keeps F.keep
  refine codeG_call_function hroom ((X₀.keeps F.keep) _ _ ho) rfl hco hgen rfl (codeRec_of (X₀.keeps F.keep) hcd) (hbind _ _ _ _ ?_)
  refine wpAny_newFunctionEnv_cells hk (kinds_cells hkind _) fun env' he s' x => ?_
  subst he
  refine ⟨hl.keeps x.toInCall.keep, ?_⟩
  obtain ⟨h₁, tk, rfl, _⟩ := x.done
  have hk₁ := x.toInCall.keep
  obtain ⟨cells, NC, Y⟩ := Cl.news (h₀ := s.heap) (Nat.le_refl _) fun n c hm => ⟨x.cell n c (lookup_of_mem_nodup (cellsFrom_names scope.names 0 (s.heap.objs.size + 1) [] [] rfl ▸ hnd) hm), x.above n c hm⟩
  refine wpG_mono (h _ s.heap.objs.size h₁ tk cells FG ⟨x.toInCall.ns, fun b o e => hk₁ b o (of_hideAll _ e), Nat.le_of_eq (hideAll_size _ _)⟩ (fun p hp => ?_) Y BG (X₀.keeps st) (T.keeps st) (fun p hp => Heap.lt_size (N p hp).1)) (fun fl s' hl => lv _ _ hl) fun _ _ y => y
  rcases List.mem_append.mp hp with hp | hp
  · refine ⟨(NC p hp).1, (NC p hp).2.1, ?_⟩
    cases q : (hideAll s.heap (news.map (·.1))).get? p.1 with
    | none => rfl
    | some o => have := of_hideAll _ q; rw [(NC p hp).2.2] at this; cases this
  · exact ⟨hk₁ _ _ (N p hp).1, Nat.ne_of_lt (Heap.lt_size (N p hp).1), hideAll_none _ (List.mem_map_of_mem hp)⟩
end
end Mine
end
section
open PySem PySem.W PySem.Calls PyProof.Rows
namespace Mine
local macro_rules | `(tactic| walk_at "ZZ0") => `(tactic| skip)
local macro_rules | `(tactic| walk_at "ZZ1") => `(tactic| skip)
local macro_rules | `(tactic| walk_at "ZZ2") => `(tactic| skip)
local macro_rules | `(tactic| walk_at "ZZ3") => `(tactic| skip)
local macro_rules | `(tactic| walk_at "ZZ4") => `(tactic| skip)
local macro_rules | `(tactic| walk_at "ZZ5") => `(tactic| skip)
local macro_rules | `(tactic| walk_at "ZZ6") => `(tactic| skip)
local macro_rules | `(tactic| walk_at "ZZ7") => `(tactic| skip)
local macro_rules | `(tactic| walk_at "ZZ8") => `(tactic| skip)
local macro_rules | `(tactic| walk_at "ZZ9") => `(tactic| skip)
local macro_rules | `(tactic| walk_at "ZZ10") => `(tactic| skip)
local macro_rules | `(tactic| walk_at "ZZ11") => `(tactic| skip)
local macro_rules | `(tactic| walk_at "ZZ12") => `(tactic| skip)
local macro_rules | `(tactic| walk_at "ZZ13") => `(tactic| skip)
local macro_rules | `(tactic| walk_at "ZZ14") => `(tactic| skip)
local macro_rules | `(tactic| walk_at "ZZ15") => `(tactic| skip)
local macro_rules | `(tactic| walk_at "ZZ16") => `(tactic| skip)
local macro_rules | `(tactic| walk_at "ZZ17") => `(tactic| skip)
local macro_rules | `(tactic| walk_at "ZZ18") => `(tactic| skip)
local macro_rules | `(tactic| walk_at "ZZ19") => `(tactic| skip)
local macro_rules | `(tactic| walk_at "ZZ20") => `(tactic| skip)
local macro_rules | `(tactic| walk_at "ZZ21") => `(tactic| skip)
local macro_rules | `(tactic| walk_at "ZZ22") => `(tactic| skip)
local macro_rules | `(tactic| walk_at "ZZ23") => `(tactic| skip)
local macro_rules | `(tactic| walk_at "ZZ24") => `(tactic| skip)
local macro_rules | `(tactic| walk_at "ZZ25") => `(tactic| skip)
local macro_rules | `(tactic| walk_at "ZZ26") => `(tactic| skip)
local macro_rules | `(tactic| walk_at "ZZ27") => `(tactic| skip)
local macro_rules | `(tactic| walk_at "ZZ28") => `(tactic| skip)
local macro_rules | `(tactic| walk_at "ZZ29") => `(tactic| skip)
theorem rs13 {M : Model} {A : Around} {E : Value → Shared → Prop} {s : Shared} {env : Env} {pos : Pos} {Q : Flow → Shared → Prop} (h : wpAny M A (exec (.Pass pos) env) Q E s) : wpAny M A (exec (.Pass pos) env) Q E s := by
  w_top off
  first | (walk1; fail) | exact h
end Mine
end
section
open PySem PySem.W PySem.Calls PyProof.Rows
set_option maxRecDepth 100000
set_option maxHeartbeats 2000000
set_option rowWalk.seconds 0
namespace Mine
local macro_rules | `(tactic| k_all) => `(tactic| assumption)
local macro_rules | `(tactic| walk_at "call builtin:len") => `(tactic| (k_here; (with_reducible show wpAny _ _ (call (Value.builtin "len") [Value.ref _]) _ _ _); k_dflt (refine kda_len (knd := PySem.intKind _ _) (by k_asm) (by k_mem) (by k_asm) (by k_asm) (by omega) ?_)))
local macro_rules | `(tactic| walk_at "getAttr ref") => `(tactic| (k_here; k_dflt (refine' getS_own ?k1 ?k2 ?k3 ?k4 ?k5 ?k6 ?k7 ?k8 ?k9 ?_; (case k1 => k_asm); (case k2 => k_asm); (case k3 => k_inst); (case k4 => k_is); (case k5 => k_is); (case k6 => k_is); (case k7 => k_is); (case k8 => k_get); (case k9 => k_handed); k_whole)))
local macro_rules | `(tactic| walk_at "getMethod ref") => `(tactic| (k_here; k_dflt (first | (refine' methS_inst ?k1 ?k2 ?k3 ?k4 ?k5 ?k6 ?k7 ?_; (case k1 => k_asm); (case k2 => k_asm); (case k3 => k_inst); (case k4 => k_is); (case k5 => k_is); (case k6 => k_is); (case k7 => k_get); k_whole) | (refine' dictS_getm (News.get (by k_asm) (by k_mem)) ?_; k_whole))))
local macro_rules | `(tactic| walk_at "call builtin:dict.get") => `(tactic| (k_here; (with_reducible show wpAny _ _ (call (Value.builtin "dict.get") [Value.ref _, Value.str _ _, _]) _ _ _); k_dflt (refine' dictS_get2 (News.get (by k_asm) (by k_mem)) ?k ?y ?l ?_; (case k => assumption); (case y => assumption); (case l => k_get); k_whole)))
local macro_rules | `(tactic| walk_at "setItem ref str") => `(tactic| (k_here; k_dflt (refine' dictS_set ?F ?N ?U ?k ?l ?z ?_; (case F => k_asm); (case N => k_asm); (case U => k_upd); (case k => assumption); (case l => k_get); (case z => simp); k_whole); intro h' F' N'))
local macro_rules | `(tactic| walk_at "call builtin:hasattr") => `(tactic| (k_here; k_dflt (refine' hasattr_K ?F ?X ?N ?I rfl ?g ?hh ?ha ?c ?l ?cd ?fo ?n ?z ?mo ?_; (case F => k_asm); (case X => k_asm); (case N => k_asm); (case I => k_inst); (case g => k_is); (case hh => k_is); (case ha => k_is); (case c => decide +kernel); (case l => (refine lookS ?_; k_get)); (case cd => k_is); (case fo => decide +kernel); (case n => decide +kernel); (case z => decide +kernel); (case mo => k_is); k_whole); intro h' tk' F' N'))
local macro_rules | `(tactic| walk_at "compareOp In int ref") => `(tactic| (k_here; k_dflt (refine' kda_in (knd := PySem.intKind _ _) ?N ?p ?d ?l (intKind_is _ _ _ _) _ rfl ?_; (case N => k_asm); (case p => k_mem); (case d => assumption); (case l => assumption); k_whole)))
local macro_rules | `(tactic| walk_at "RUNITER") => `(tactic| repeat' (first | ((fail_if_success (with_reducible show wpAny _ _ (pyIter _) _ _ _)); first | (k_unfold; (try dsimp only)) | walk1 | (dsimp only; walk1) | (leave1; try dsimp only))))
local macro_rules | `(tactic| walk_at "subscriptTail") => `(tactic| (k_here; k_dflt (refine kdt_tail (knd := PySem.intKind _ _) (by k_asm) (by k_mem) (by k_asm) ?_)))
local macro_rules | `(tactic| walk_at "getItem ref int") => `(tactic| (k_here; k_dflt (refine kdt_getItem (knd := PySem.intKind _ _) (by k_asm) (by k_mem) (by k_asm) (intKind_is _ _ _ _) (by assumption) ?_)))
theorem va_at {kvs : List (Int × Value)} (hn : (kvs.map (·.1)).Nodup) : ∀ {i : Nat} {k : Int} {v : Value}, kvs[i]? = some (k, v) → valueAt kvs k = some v := by
  induction kvs with
  | nil => intro i k v h; simp at h
  | cons p r ih =>
    rw [List.map_cons, List.nodup_cons] at hn
    intro i k v h
    rw [va_cons]
    cases i with
    | zero =>
      simp only [List.getElem?_cons_zero, Option.some.injEq] at h
      rw [h, if_pos rfl]
    | succ i =>
      simp only [List.getElem?_cons_succ] at h
      have hm : k ∈ r.map (·.1) := List.mem_map.mpr ⟨_, List.mem_of_getElem? h, rfl⟩
      rw [if_neg (fun e => hn.1 (by rw [e]; exact hm))]
      exact ih hn.2 h
theorem keyIter_notTup {h : Heap} {it d : Addr} {i n ep : Nat} (x : h.IsKeyIter it d i n ep) : ∀ o, h.get? it = some o → ¬ TupO o := by
  obtain ⟨o, ho, hc, _⟩ := x
  rintro o' ho' ⟨h1, _⟩
  rw [ho] at ho'
  cases ho'
  rw [hc] at h1
  exact absurd h1 (by decide)
def EInvD (gb : Heap) (L' : Addr) (cw : List Addr) (wv I2 aa : Addr) (ep Bn : Nat) (Led : List (Addr × Obj)) (n i : Nat) (s₀ s : Shared) : Prop :=
  ∃ (M : Str → Option Value), Fr gb L' s.heap (fun y => if y = Str.ofString "self" then some (.ref wv) else M y) ∧ s.heap.IsKeyIter I2 aa i n ep ∧
    (∀ p ∈ Led, s.heap.get? p.1 = some p.2) ∧ KeepX Bn [L', L' + 1] cw [] s₀ s ∧ s.heap.NoLimit ∧ Bn ≤ s.heap.objs.size
theorem EInvD.env {gb : Heap} {L' : Addr} {cw : List Addr} {wv I2 aa : Addr} {ep Bn : Nat} {Led : List (Addr × Obj)} {n i : Nat} {s₀ s s'' : Shared}
    (h : EInvD gb L' cw wv I2 aa ep Bn Led n i s₀ s) (e : EnvX cw [] s s'') (hnl : s''.heap.NoLimit) (hL : L' ∉ cw) (hg : ∀ b o, gb.get? b = some o → b ∉ cw) (h1 : I2 ∉ cw) (h2 : Bn ≤ I2) (h5 : ∀ p ∈ Led, p.1 ∉ cw) :
    EInvD gb L' cw wv I2 aa ep Bn Led n i s'' s'' := by
  obtain ⟨M, F, ⟨oi, hi1, hi2⟩, hled, _, _, _⟩ := h
  have k : ∀ b o, b ∉ cw → s.heap.get? b = some o → s''.heap.get? b = some o := fun b o hb q => e.heap b o hb q
  have hi := k _ _ h1 hi1
  exact ⟨M, ⟨F.ns.at' fun o q => k _ _ hL q, fun b o q => k b o (hg b o q) (F.keep b o q), F.above⟩, ⟨oi, hi, hi2⟩, fun p hp => k _ _ (h5 p hp) (hled p hp), .refl _ _ _ _ _, hnl, Nat.le_trans h2 (Nat.le_of_lt (Heap.lt_size hi))⟩
theorem iter_degree {w : World} {mean : ExcName → Option Value} {mg mb : Str → Option Value} {gd : Option (List Code)} {cn : Str} {nms : List (Str × NameKind)} {sg sc : Bool} {mo : List (Str × Const)} {a : Addr} {ccd : Value} {cl : List (Str × Addr)} {outer : List Env} {A₀ : Around} {base h₀ : Heap} {L : Addr} {m : Str → Option Value} {rest : List (Addr × Obj)} {s : Shared}
    {Q E : Value → Shared → Prop} {aa wv wd : Addr} {u1 u2 u3 u4 : Tok} {oa : Obj} {aks : List (Int × Value)} {adj : List (Int × List Int)} {tl : List (Addr × Obj)}
    (B : Below A₀ base outer h₀) (F : Fr h₀ L s.heap m) (X : (hd.heap_39 w.params).In h₀) (N : News h₀ L s.heap ((wv, instObj 154 wd) :: (wd, dictOf (DEw w u1 u2 u3 u4 aa) 4) :: (aa, oa) :: (tl ++ rest))) (T : Top TP LS mean mg mb h₀)
    (hoa : oa.IsDictOf (PySem.intKind PP w) aks) (laa : (aa == sysModules) = false) (hinn : Inn (prog := PP) w tl aks adj) (hlen : adj.length ≤ 11) (hcl : Closed adj) (hnd : (adj.map (·.1)).Nodup)
    (ex : List Addr) (hex : ∀ x ∈ ex, (∃ o, (x, o) ∈ rest) ∧ ∀ p ∈ (wv, instObj 154 wd) :: (wd, dictOf (DEw w u1 u2 u3 u4 aa) 4) :: (aa, oa) :: tl, p.1 ≠ x)
    (h : ∀ h' tk I c Lg, Fr h₀ L h' m → (∀ b o, s.heap.get? b = some o → h'.get? b = some o) → s.heap.get? I = none → s.heap.get? Lg = none → Lg + 1 < I → s.heap.objs.size ≤ Lg → h'.objs.size = I + 1 → h'.IsGen I s.gens.size →
      (∀ (A' : Around) (cw : List Addr) (Bn : Nat) (s2 : Shared), A'.handled = none → (∃ x ∈ cw, Bn = x + 1) → (∀ x ∈ cw, I < x ∧ ∃ o, s2.heap.get? x = some o) → (∀ b o, b ∉ ex → h'.get? b = some o → s2.heap.get? b = some o) → s2.gens[s.gens.size]? = some (.fresh c) →
        GenAtX PP w A' false I s.gens.size Bn [Lg, Lg + 1] cw [] adj.length (PairP Bn fun j => ((adj.getD j (0, [])).1, lenVal adj j)) 0 s2) →
      Q (.ref I) { s with heap := h', gens := s.gens.push (.fresh c), toks := tk }) :
    wpAny (model PP w) (ktrTop 305 16 gd cn { kind := .function, names := nms, isGenerator := sg, isCoroutine := sc, more := mo } L a ccd cl outer) (call (.ref 151) [.ref wv]) Q E s := by
  refine of_mk ?_
  k_fill
  intro _
  refine wpAny_call ?_
  refine' codeGen_defC ?k1 ?k2 ?k3 ?k4 ?k5 ?kA ?kF ?kK ?k6 ?k7 ?k8 ?k9 ?kB ?kD ?_ ?c2 ?c3 ?c4; (case kA => exact rfl); (case kF => exact rfl); (case kK => exact rfl); (case k1 => k_asm); (case k2 => k_asm); (case k3 => k_asm); (case k4 => k_asm); (case k5 => k_asm); (case k6 => k_is); (case k7 => k_is); (case k8 => k_room); (case k9 => first | exact BindsTo.of_eq rfl | exact binds_K (by k_in) rfl (by k_is) rfl rfl rfl | fail "k_enter: no rule for these arguments"); (case kB => exact rfl); (case kD => decide +kernel); (case c2 => exact rfl); (case c3 => exact rfl); (case c4 => exact rfl)
  intro gb L' h₁ tk cells F₁ N₁ Y₁ B₁ X₁ T₁ hk₁ hL1 hLn hLs hng
  k_cells Y₁
  rename_i oc hoc
  (try simp only [List.cons_append, List.nil_append] at N₁)
  have hIlt : ∀ b o, s.heap.get? b = some o → (h₁.push { cls := .type "generator", data := .fields #[.int s.gens.size 0, .str (Str.ofString "__iter__") tk, .str (Str.ofString "DegreeView.__iter__") (tk + 1)] }).get? b = some o := fun b o e => Heap.get?_push_of_some _ (hk₁ b o e)
  have hexs : ∀ x ∈ ex, ∃ o, s.heap.get? x = some o := fun x hx => let ⟨⟨o, ho⟩, _⟩ := hex x hx; ⟨o, (N (x, o) (List.mem_cons_of_mem _ (List.mem_cons_of_mem _ (List.mem_cons_of_mem _ (List.mem_append_right _ ho))))).1⟩
  have hexn : ∀ x, s.heap.get? x = none → x ∉ ex := fun x hx hm => by obtain ⟨o, ho⟩ := hexs x hm; rw [hx] at ho; cases ho
  have hexI : s.heap.get? h₁.objs.size = none := by
    cases q : s.heap.get? h₁.objs.size with
    | none => rfl
    | some o => exact absurd (Heap.lt_size (hk₁ _ _ q)) (Nat.lt_irrefl _)
  have hexg : ∀ x ∈ ex, gb.get? x = none := fun x hx => let ⟨⟨o, ho⟩, _⟩ := hex x hx; hng (x, o) (List.mem_cons_of_mem _ (List.mem_cons_of_mem _ (List.mem_cons_of_mem _ (List.mem_append_right _ ho))))
  refine h _ _ h₁.objs.size _ L' (F.kept hIlt) hIlt ?_ hLn (Heap.lt_size (N₁ (L' + 1, oc) (.head _)).1) hLs (Heap.size_push _ _) ⟨_, _, _, Heap.get?_push_size _ rfl, rfl, rfl, rfl⟩ fun A' cw Bn s1 hh hcB hcwl hkp hgs => ⟨⟨_, _, _, hkp _ _ (hexn _ hexI) (Heap.get?_push_size _ rfl), rfl, rfl, rfl⟩, _, hgs, ?_⟩
  · exact hexI
  -- what the generator does, whenever it is first woken
  intro s2 henv hnl
  refine ⟨rfl, seg_func ?_⟩
  have hLcw : L' ∉ cw := fun hm => absurd (hcwl _ hm).1 (Nat.not_lt.mpr (Nat.le_of_lt hL1))
  have hlcw : ∀ b o, h₁.get? b = some o → b ∉ cw := fun b o e hm => absurd (hcwl _ hm).1 (Nat.not_lt.mpr (Nat.le_of_lt (Heap.lt_size e)))
  have up2 : ∀ b o, b ∉ ex → h₁.get? b = some o → s2.heap.get? b = some o := fun b o hb e => henv.heap b o (hlcw b o e) (hkp b o hb (Heap.get?_push_of_some _ e))
  have hcx : L' + 1 ∉ ex := fun hm => by
    obtain ⟨o, ho⟩ := hexs _ hm
    exact absurd (Heap.lt_size ho) (Nat.not_lt.mpr (Nat.le_succ_of_le hLs))
  have F2 : Fr gb L' s2.heap _ := ⟨F₁.ns.at' fun o e => up2 _ o (hexn _ hLn) e, fun b o e => up2 b o (fun hm => by rw [hexg b hm] at e; cases e) (F₁.keep b o e), F₁.above⟩
  have N2 : ∀ own, News gb L' s2.heap ((wv, instObj 154 wd) :: (wd, dictOf (DEw w u1 u2 u3 u4 aa) 4) :: (aa, oa) :: (L' + 1, oc) :: (tl ++ exs gb s2.heap L' own)) := fun own p hp => by
    have old : ∀ q ∈ (wv, instObj 154 wd) :: (wd, dictOf (DEw w u1 u2 u3 u4 aa) 4) :: (aa, oa) :: (L' + 1, oc) :: tl, s2.heap.get? q.1 = some q.2 ∧ q.1 ≠ L' ∧ gb.get? q.1 = none := fun p hp => by
      have hn := N₁ p (by
        simp only [List.mem_cons, List.mem_append] at hp ⊢
        rcases hp with h | h | h | h | h <;> simp only [h, true_or, or_true])
      refine ⟨up2 _ _ (fun hm => ?_) hn.1, hn.2⟩
      have hp' : p ∈ (wv, instObj 154 wd) :: (wd, dictOf (DEw w u1 u2 u3 u4 aa) 4) :: (aa, oa) :: tl ∨ p = (L' + 1, oc) := by
        simp only [List.mem_cons] at hp ⊢
        rcases hp with h | h | h | h | h
        · exact .inl (.inl h)
        · exact .inl (.inr (.inl h))
        · exact .inl (.inr (.inr (.inl h)))
        · exact .inr h
        · exact .inl (.inr (.inr (.inr h)))
      rcases hp' with q | q
      · exact (hex _ hm).2 p q rfl
      · rw [q] at hm
        exact hcx hm
    simp only [List.mem_cons, List.mem_append] at hp old
    rcases hp with h | h | h | h | h | h
    · exact old p (by simp only [h, true_or, or_true])
    · exact old p (by simp only [h, true_or, or_true])
    · exact old p (by simp only [h, true_or, or_true])
    · exact old p (by simp only [h, true_or, or_true])
    · exact old p (by simp only [h, true_or, or_true])
    · exact exs_news p h
  have hcw2 : ∀ x ∈ cw, h₁.objs.size < x ∧ ∃ o, s2.heap.get? x = some o := fun x hx => ⟨(hcwl x hx).1, let ⟨o, ho⟩ := (hcwl x hx).2; henv.live x hx o ho⟩
  have hIB : h₁.objs.size + 1 < Bn := by
    obtain ⟨x, hx, rfl⟩ := hcB
    exact Nat.succ_lt_succ (hcwl x hx).1
  have hLB : L' < Bn := Nat.lt_trans hL1 (Nat.lt_of_succ_lt hIB)
  have hoI : ∃ o, s2.heap.get? h₁.objs.size = some o := by
    refine ⟨_, (henv.heap _ _ (fun hm => absurd (hcwl _ hm).1 (Nat.lt_irrefl _)) (hkp _ _ (hexn _ hexI) (Heap.get?_push_size _ rfl)))⟩
  have hlt0 : ∀ p ∈ (wv, instObj 154 wd) :: (wd, dictOf (DEw w u1 u2 u3 u4 aa) 4) :: (aa, oa) :: (tl ++ rest), p.1 < L' := fun p hp => Nat.lt_of_lt_of_le (Heap.lt_size (N p hp).1) hLs
  have hw1 : @LT.lt Nat _ wv L' := hlt0 _ (.head _)
  have hw2 : @LT.lt Nat _ wd L' := hlt0 _ (.tail _ (.head _))
  have hw3 : @LT.lt Nat _ aa L' := hlt0 _ (.tail _ (.tail _ (.head _)))
  have hLc0 : L' + 1 < h₁.objs.size := Heap.lt_size (N₁ (L' + 1, oc) (.head _)).1
  have hLc : L' + 1 < Bn := Nat.lt_trans hLc0 (Nat.lt_of_succ_lt hIB)
  have hcC : L' + 1 ∉ cw := hlcw _ _ (N₁ (L' + 1, oc) (.head _)).1
  have hoff2 : ∀ p ∈ tl ++ exs gb s2.heap L' [L' + 1], p.1 ≠ L' + 1 := fun p hp => by
    rcases List.mem_append.mp hp with h | h
    · exact Nat.ne_of_lt (Nat.lt_succ_of_lt (hlt0 p (List.mem_cons_of_mem _ (List.mem_cons_of_mem _ (List.mem_cons_of_mem _ (List.mem_append_left _ h))))))
    · exact exs_off (List.mem_singleton.mpr rfl) p h
  have hgI : ∀ b o, gb.get? b = some o → b < h₁.objs.size := fun b o e => Heap.lt_size (F₁.keep b o e)
  have hgcw : ∀ b o, gb.get? b = some o → b ∉ cw := fun b o e hm => absurd (hcwl _ hm).1 (Nat.not_lt.mpr (Nat.le_of_lt (hgI b o e)))
  have hgL : ∀ b o, gb.get? b = some o → b ≠ L' ∧ b ≠ L' + 1 := fun b o e => by
    refine ⟨fun q => ?_, fun q => ?_⟩
    · exact absurd (Heap.lt_size e) (Nat.not_lt.mpr (by rw [q]; exact F₁.above))
    · exact absurd (Heap.lt_size e) (Nat.not_lt.mpr (by rw [q]; exact Nat.le_succ_of_le F₁.above))
  have hcn : ∀ o, s2.heap.get? (L' + 1) = some o → ¬ TupO o := by
    rintro o ho ⟨_, xs, n, hx⟩
    have h1 := up2 _ _ hcx (N₁ (L' + 1, oc) (.head _)).1
    rw [h1] at ho
    cases ho
    rw [hoc] at hx
    cases hx
  clear h F B X N T F₁ N₁ B₁ hIlt hk₁
  have Na := N2 [L' + 1]
  have hLt2 := fr_notTup F2
  have kp2 : ∀ (h' : Heap) (m' : Str → Option Value) (led : List (Addr × Obj)), Fr gb L' h' m' → News gb L' h' led → (∀ p ∈ exs gb s2.heap L' [L' + 1], p ∈ led) → KeepAll L' [L' + 1] s2.heap h' := fun _ _ _ F' N' hs => exs_keep F2 F' N' hs
  clear N2
  refine seg_execs_cons (seg_wrap ?_)
  show wpAny _ (A'.in1.deeper _) _ _ _ _
  k_steps
  rename_i h3 oc3 F3 N3 hoc3
  have k3 : KeepAll L' [L' + 1] s2.heap h3 := kp2 _ _ _ F3 N3 fun p hp => by simp only [List.mem_cons, List.mem_append]; simp only [hp, true_or, or_true]
  (try dsimp only)
  refine seg_execs_cons (seg_If ?_)
  show wpAny _ (A'.in1.deeper _) _ _ _ _
  k_steps
  refine seg_execs_cons (seg_For ?_)
  show wpAny _ (A'.in1.deeper _) _ _ _ _
  walk_at "RUNITER"
  obtain ⟨ep, hat⟩ := KdkAt.of hoa
  refine wpAny_pyIter_dict (knd := PySem.intKind PP w) (kvs := aks) (ep := ep) laa (hat.dictAt (N3 (aa, oa) (by simp)).1) ?_
  intro fr hfr hends
  have hIL1 : h₁.objs.size ≠ L' := Nat.ne_of_gt hL1
  have hIL2 : h₁.objs.size ≠ L' + 1 := Nat.ne_of_gt hLc0
  have hB3 : Bn ≤ h3.objs.size := by
    obtain ⟨x, hx, rfl⟩ := hcB
    obtain ⟨h1, o, ho⟩ := hcw2 x hx
    exact Heap.lt_size (k3 _ _ ho (Nat.ne_of_gt (Nat.lt_trans hL1 h1)) (by rw [List.mem_singleton]; exact Nat.ne_of_gt (Nat.lt_trans hLc0 h1)))
  have hledN : ∀ p ∈ (wv, instObj 154 wd) :: (wd, dictOf (DEw w u1 u2 u3 u4 aa) 4) :: (aa, oa) :: (L' + 1, oc3) :: tl, p ∈ (wv, instObj 154 wd) :: (wd, dictOf (DEw w u1 u2 u3 u4 aa) 4) :: (aa, oa) :: (L' + 1, oc3) :: (tl ++ exs gb s2.heap L' [L' + 1]) := fun p hp => by
    simp only [List.mem_cons, List.mem_append] at hp ⊢
    rcases hp with h | h | h | h | h <;> simp only [h, true_or, or_true]
  have hled : ∀ p ∈ (wv, instObj 154 wd) :: (wd, dictOf (DEw w u1 u2 u3 u4 aa) 4) :: (aa, oa) :: (L' + 1, oc3) :: tl, h3.get? p.1 = some p.2 ∧ p.1 ≠ L' ∧ gb.get? p.1 = none ∧ p.1 < h₁.objs.size := fun p hp => by
    refine ⟨(N3 p (hledN p hp)).1, (N3 p (hledN p hp)).2.1, (N3 p (hledN p hp)).2.2, ?_⟩
    have h0 := hlt0 p
    simp only [List.mem_cons, List.mem_append] at hp h0
    rcases hp with h | h | h | h | h
    · exact Nat.lt_trans (h0 (by simp only [h, true_or])) hL1
    · exact Nat.lt_trans (h0 (by simp only [h, true_or, or_true])) hL1
    · exact Nat.lt_trans (h0 (by simp only [h, true_or, or_true])) hL1
    · rw [h]; exact hLc0
    · exact Nat.lt_trans (h0 (by simp only [h, true_or, or_true])) hL1
  have hcI : h3.objs.size ∉ cw := fun hm => by
    obtain ⟨h1, o, ho⟩ := hcw2 _ hm
    have hlt1 : L' + 1 < h₁.objs.size := hLc0
    exact absurd (Heap.lt_size (k3 _ _ ho (Nat.ne_of_gt (Nat.lt_trans hL1 h1)) (by rw [List.mem_singleton]; exact Nat.ne_of_gt (Nat.lt_trans hlt1 h1)))) (Nat.lt_irrefl _)
  obtain ⟨oS, hoS⟩ : ∃ o, gb.get? cStatics = some o := by obtain ⟨mc, ⟨oS, _, _, hS0, _⟩, _⟩ := Top.nolimit T₁; exact ⟨oS, hS0⟩
  have hcsL : cStatics ≠ L' := (hgL _ _ hoS).1
  have hcsC : cStatics ≠ L' + 1 := (hgL _ _ hoS).2
  have hgB : ∀ x, Bn ≤ x → gb.get? x = none := fun x hx => by
    cases q : gb.get? x with
    | none => rfl
    | some o => exact absurd (hgI _ _ q) (Nat.not_lt.mpr (Nat.le_of_lt (Nat.lt_of_lt_of_le (Nat.lt_of_succ_lt hIB) hx)))
  have hcs : ∀ x, Bn ≤ x → cStatics ≠ x := fun x hx e => by rw [e, hgB x hx] at hoS; cases hoS
  have hnk : (aks.map (·.1)).Nodup := by rw [hinn.keys]; exact hnd
  refine seg_for_ind (n := aks.length) (rem := fun i => adj.length - i) (EInvD gb L' cw wv h3.objs.size aa ep Bn ((wv, instObj 154 wd) :: (wd, dictOf (DEw w u1 u2 u3 u4 aa) 4) :: (aa, oa) :: (L' + 1, oc3) :: tl) aks.length) ?turn ?fin aks.length 0 s2 _ rfl (Nat.zero_le _) ?inv0
  case inv0 =>
    obtain ⟨M3, F3'⟩ := fr_pick (x := Str.ofString "self") (v := .ref wv) F3 (by kernel_rfl)
    refine ⟨M3, F3'.push _, ⟨_, Heap.get?_push_size _ rfl, rfl, rfl⟩, fun p hp => Heap.get?_push_of_some _ (hled p hp).1, ?_, ?_, ?_⟩
    · refine KeepAll.keepX2 (own := [L' + 1]) (fun b o e a c => Heap.get?_push_of_some _ (k3 b o e a c)) rfl rfl rfl hLcw (fun b hb => ?_) hLt2
      rw [List.mem_singleton.mp hb]
      exact ⟨.inr (.head _), hcC, hcn⟩
    · exact KeepAll.noLimit (own := [L' + 1]) (fun b o e a c => Heap.get?_push_of_some _ (k3 b o e a c)) hcsL (by rw [List.mem_singleton]; exact hcsC) hnl
    · exact Nat.le_trans hB3 (by show h3.objs.size ≤ (h3.push _).objs.size; rw [Heap.size_push]; exact Nat.le_succ _)
  case fin =>
    intro s₀ s hinv
    obtain ⟨M, F, hit, hledv, hkx, hnl', hsz⟩ := hinv
    rw [show adj.length - aks.length = 0 by rw [hinn.len]; exact Nat.sub_self _]
    refine seg_forLoop ?_
    rw [over_loop1 hfr]
    refine wpAny_pyNext_dict_end hh hit (hat.dictAt (hledv (aa, oa) (by simp))) (by simp) fun h' hext => ?_
    dsimp only
    intro c'
    refine hends _ _ _ _ ?_
    refine seg_end (.ok (.ret .none)) ⟨rfl, rfl, ?_⟩
    refine hkx.trans (KeepAll.keepX2 (own := [h3.objs.size]) (fun b o e _ c => hext b o (by simpa using c) e) rfl rfl rfl hLcw (fun b hb => ?_) (fr_notTup F))
    rw [List.mem_singleton.mp hb]
    exact ⟨.inl hB3, hcI, keyIter_notTup hit⟩
  case turn =>
    intro i s₀ s hi hinv cont
    obtain ⟨M, F, hit, hledv, hkx, hnl', hsz⟩ := hinv
    obtain ⟨k, x, ox, kvi, ha1, ha2, ha3, ha4, ha5⟩ := hinn.at i (hinn.len ▸ hi)
    have hrem : adj.length - i = (adj.length - (i + 1)) + 1 := by have := hinn.len; omega
    rw [hrem]
    refine seg_forLoop ?_
    rw [over_loop1 hfr]
    refine wpAny_pyNext_dict_item (knd := PySem.intKind PP w) hit (hat.dictAt (hledv (aa, oa) (by simp))) ha1 fun key h4 hkey hit4 hs4 => ?_
    obtain ⟨tkk, rfl⟩ := Value.isInt_shape hkey
    dsimp only
    refine wpAny_of_eq (a := ()) rfl ?_
    have hva : valueAt aks k = some (.ref x) := va_at hnk ha1
    have hIL : L' ≠ h3.objs.size := Nat.ne_of_lt (Nat.lt_of_lt_of_le hLB hB3)
    have F4 : Fr gb L' h4 _ := ⟨F.ns.at' fun o e => (hs4.2 _ hIL).trans e, fun b o e => (hs4.2 b (fun q => by rw [q, hgB _ hB3] at e; cases e)).trans (F.keep b o e), F.above⟩
    have k4 : KeepAll L' [h3.objs.size] s.heap h4 := fun b o e _ c => (hs4.2 b (by simpa using c)).trans e
    have hled4 : ∀ p ∈ (wv, instObj 154 wd) :: (wd, dictOf (DEw w u1 u2 u3 u4 aa) 4) :: (aa, oa) :: (L' + 1, oc3) :: tl, h4.get? p.1 = some p.2 := fun p hp => (hs4.2 _ (Nat.ne_of_lt (Nat.lt_of_lt_of_le (Nat.lt_trans (hled p hp).2.2.2 (Nat.lt_of_succ_lt hIB)) hB3))).trans (hledv p hp)
    have N4 : News gb L' h4 ((wv, instObj 154 wd) :: (wd, dictOf (DEw w u1 u2 u3 u4 aa) 4) :: (aa, oa) :: (L' + 1, oc3) :: (x, ox) :: (tl ++ exs gb h4 L' [])) := fun p hp => by
      have old : ∀ q ∈ (wv, instObj 154 wd) :: (wd, dictOf (DEw w u1 u2 u3 u4 aa) 4) :: (aa, oa) :: (L' + 1, oc3) :: tl, h4.get? q.1 = some q.2 ∧ q.1 ≠ L' ∧ gb.get? q.1 = none := fun q hq => ⟨hled4 q hq, (hled q hq).2.1, (hled q hq).2.2.1⟩
      simp only [List.mem_cons, List.mem_append] at hp old
      rcases hp with h | h | h | h | h | h | h
      · exact old p (by simp only [h, true_or, or_true])
      · exact old p (by simp only [h, true_or, or_true])
      · exact old p (by simp only [h, true_or, or_true])
      · exact old p (by simp only [h, true_or, or_true])
      · rw [h]; exact old (x, ox) (by simp only [ha3, true_or, or_true])
      · exact old p (by simp only [h, true_or, or_true])
      · exact exs_news p h
    have kp4 : ∀ (h' : Heap) (m' : Str → Option Value) (led : List (Addr × Obj)), Fr gb L' h' m' → News gb L' h' led → (∀ p ∈ exs gb h4 L' [], p ∈ led) → KeepAll L' [] h4 h' := fun _ _ _ F' N' hs => exs_keep F4 F' N' hs
    have hLts := fr_notTup F
    have hkl : kvi.length ≤ 11 := by
      have h1 := nbr_len hcl (List.mem_of_getElem? ha2) (dict_keys_nodup ha4)
      rw [List.length_map] at h1
      omega
    clear F
    show wpAny _ (A'.in1.deeper _) _ _ _ _
    k_steps
    refine seg_execs_cons (seg_wrap ?_)
    rw [over_loop1 hfr]
    show wpAny _ (A'.in1.deeper _) _ _ _ _
    k_steps
    (try dsimp only)
    refine seg_execs_cons (seg_Expr_Yield (split1 hfr).1 rfl (split1 hfr).2 ?_)
    rw [over_loop1 hfr]
    show wpAny _ (A'.in1.deeper _) _ _ _ _
    k_steps
    rename_i h5 TT h6 F6 N6 l6 kap hkap
    have k6 : KeepAll L' [] h4 h6 := kp4 _ _ _ F6 N6 fun p hp => by simp only [List.mem_cons, List.mem_append]; simp only [hp, true_or, or_true]
    obtain ⟨M6, F6'⟩ := fr_pick (x := Str.ofString "self") (v := .ref wv) F6 (by kernel_rfl)
    obtain ⟨oi, hi1, hi2⟩ := hit4
    have hi6 := k6 _ _ hi1 (Ne.symm hIL) List.not_mem_nil
    have kall6 : KeepAll L' [h3.objs.size] s.heap h6 := fun b o e a c => k6 b o (k4 b o e a c) a List.not_mem_nil
    have hkx6 : KeepX Bn [L', L' + 1] cw [] s₀ { s with heap := h6, toks := s.toks + 1 + 1 + 1 + 1 + 1 + 1 + 1 + 1 } := by
      refine hkx.trans (KeepAll.keepX2 (own := [h3.objs.size]) kall6 rfl rfl rfl hLcw (fun b hb => ?_) hLts)
      rw [List.mem_singleton.mp hb]
      exact ⟨.inl hB3, hcI, keyIter_notTup hit⟩
    have inv : EInvD gb L' cw wv h3.objs.size aa ep Bn ((wv, instObj 154 wd) :: (wd, dictOf (DEw w u1 u2 u3 u4 aa) 4) :: (aa, oa) :: (L' + 1, oc3) :: tl) aks.length (i + 1) s₀ { s with heap := h6, toks := s.toks + 1 + 1 + 1 + 1 + 1 + 1 + 1 + 1 } :=
      ⟨M6, F6', ⟨oi, hi6, hi2⟩, fun p hp => k6 _ _ (hled4 p hp) (hled p hp).2.1 List.not_mem_nil, hkx6, kall6.noLimit hcsL (by rw [List.mem_singleton]; exact hcs _ hB3) hnl', Nat.le_trans hB3 (Nat.le_of_lt (Heap.lt_size hi6))⟩
    have hIT : h3.objs.size < TT := allLt_mem (l := tl ++ exs gb h4 L' []) l6.2.2.2.2.2 _ (List.mem_append_right _ (exs_in hi1 (Ne.symm hIL) (hgB _ hB3) List.not_mem_nil))
    refine ⟨⟨TT, tkk, s.toks + 1 + 1 + 1 + 1 + 1 + 1 + 1, rfl, ?_, Nat.le_trans hB3 (Nat.le_of_lt hIT)⟩, hkx6, fun s'' henv hnl => hkap .none s'' ?_⟩
    · have hidx : adj.length - 1 - (adj.length - (i + 1)) = i := by have := hinn.len; omega
      have hlv : lenVal adj i = (kvi.length : Int) + if (valueAt kvi k).isSome = true then 1 else 0 := by
        unfold lenVal
        rw [ha2, va_isSome]
        simp only [List.length_map]
      have hg1 : (adj.getD i (0, [])).1 = k := by rw [List.getD_eq_getElem?_getD, ha2]; rfl
      rw [hidx]
      dsimp only
      rw [hg1, hlv]
      exact (N6 (TT, _) (.head _)).1
    · refine seg_again rfl (cont s'' s'' (inv.env henv hnl hLcw hgcw hcI hB3 fun p hp => ?_))
      intro hm
      have h1 := (hcw2 _ hm).1
      have h2 := (hled p hp).2.2.2
      exact absurd h1 (Nat.not_lt.mpr (Nat.le_of_lt h2))
end Mine
end
section
open PySem PySem.W PySem.Calls PyProof.Rows
set_option maxRecDepth 100000
namespace Mine
section
variable {prog : Program} {w : World} {A : Around} {s : Shared} {env : Env}
/-- a loop's turns, by an invariant with a measure; the target may be a tuple -/
theorem codeAny_forLoopI {R : Result → Shared → Prop} {target : Expr} {it : Value} {body : List Stmt} (I : Nat → Shared → Prop)
    (turn : ∀ n s, I n s → wpAny (model prog w) A (pyNext it) (fun r s₁ => match r with
      | none => R (.ok .next) s₁
      | some v => wpAny (model prog w) A (letOwnedTupleGo target it v) (fun _ s₂ => wpAny (model prog w) A (assign target env v) (fun _ s₃ => wpAny (model prog w) A (execs body env) (fun f s₄ => match f with
          | .next | .cont => ∃ m, m < n ∧ I m s₄
          | .brk => R (.ok .next) s₄
          | .ret v => R (.ok (.ret v)) s₄) (notedBy (model prog w) A env fun e s' => R (.error e) s') s₃) (notedBy (model prog w) A env fun e s' => R (.error e) s') s₂) (notedBy (model prog w) A env fun e s' => R (.error e) s') s₁) (notedBy (model prog w) A env fun e s' => R (.error e) s') s)
    (n : Nat) (h : I n s) : codeAny (model prog w) A (.forLoop target it body [] env) R s := by
  refine codeAny_loop' rfl I (fun n s hI => ?_) n h
  show wpAny _ _ ((forTurn target it body [] env).onRaise (fun x => do noteFrame x env; theTreesLotGoes x)) _ _ s
  refine wpAny_noted ?_
  simp only [forTurn]
  refine wpAny_bind (wpAny_standAt (wpAny_bind (wpAny_onRaise (wpAny_mono (turn n s hI) (fun r s₁ h₁ => ?_) fun _ _ h' => wpAny_standAt h'))))
  cases r with
  | none => exact wpAny_pure (.inr ⟨rfl, codeAny_block (wpAny_execs_nil h₁)⟩)
  | some v =>
    refine wpAny_bind (wpAny_mono h₁ (fun _ s₂ h₂ => ?_) fun _ _ h' => h')
    refine wpAny_bind (wpAny_mono h₂ (fun _ s₃ h₃ => wpAny_bind (wpAny_mono h₃ (fun f s₄ h₄ => ?_) fun _ _ h' => h')) fun _ _ h' => h')
    cases f with
    | next => exact wpAny_pure (.inl ⟨rfl, h₄⟩)
    | cont => exact wpAny_pure (.inl ⟨rfl, h₄⟩)
    | brk => exact wpAny_pure h₄
    | ret v => exact wpAny_pure h₄
/-- a turn has been made: the invariant holds with a smaller measure -/
def Turned (I : Nat → Shared → Prop) (k : Nat) (s : Shared) : Prop := ∃ m, m < k ∧ I m s
def LoopI (prog : Program) (w : World) (A : Around) (env : Env) (target : Expr) (body : List Stmt) (Q : Flow → Shared → Prop) (E : Value → Shared → Prop) (it : Value) (s₂ : Shared) : Prop :=
  ∃ (Inv : Nat → Shared → Prop) (k : Nat), Inv k s₂ ∧ ∀ k s', Inv k s' → wpAny (model prog w) A (pyNext it) (fun r s₃ => match r with
    | none => Q .next s₃
    | some v => wpAny (model prog w) A (letOwnedTupleGo target it v) (fun _ s₄ => wpAny (model prog w) A (assign target env v) (fun _ s₅ => wpAny (model prog w) A (execs body env) (fun f s₆ => match f with
        | .next | .cont => Turned Inv k s₆
        | .brk => Q .next s₆
        | .ret v => Q (.ret v) s₆) E s₅) E s₄) E s₃) E s'
theorem For_I {E : Value → Shared → Prop} {Q : Flow → Shared → Prop} {target iter : Expr} {pos : Pos} {body : List Stmt}
    (h : wpAny (model prog w) A (eval iter env) (fun xv s₁ => wpAny (model prog w) A (pyIter xv) (LoopI prog w A env target body Q E) E s₁) E s)
    (hs : ∀ x, foldedSetIterable iter env x = pure x := by intro _; rfl)
    (hE : PassesOwn (model prog w) A env E := by passes_own) :
    wpAny (model prog w) A (exec (.For target iter body [] pos) env) Q E s := by
  refine wpAny_For (wpAny_mono h (fun xv s₁ h₁ => wpAny_mono h₁ (fun it s₂ h₂ => ?_) fun _ _ e => e) fun _ _ e => e) hs
  obtain ⟨Inv, k, h0, turn⟩ := h₂
  refine codeAny_forLoopI (R := fun r s' => match r with | .ok f => Q f s' | .error e => cameBackBy (model prog w) A env E e s') Inv (fun n s hI => ?_) k h0
  refine wpAny_passesOwn hE (wpAny_mono (turn n s hI) (fun r s₁ h₁ => ?_) fun _ _ e => e)
  cases r with
  | none => exact h₁
  | some v =>
    refine wpAny_passesOwn hE (wpAny_mono h₁ (fun _ s₂ h₂ => ?_) fun _ _ e => e)
    refine wpAny_passesOwn hE (wpAny_mono h₂ (fun _ s₃ h₃ => ?_) fun _ _ e => e)
    refine wpAny_passesOwn hE (wpAny_mono h₃ (fun f s₄ h₄ => ?_) fun _ _ e => e)
    cases f <;> exact h₄
end
end Mine
end
section
open PySem PySem.W PySem.Calls PyProof.Rows
namespace Mine
local macro_rules | `(tactic| walk_at "ZZ0") => `(tactic| skip)
local macro_rules | `(tactic| walk_at "ZZ1") => `(tactic| skip)
local macro_rules | `(tactic| walk_at "ZZ2") => `(tactic| skip)
local macro_rules | `(tactic| walk_at "ZZ3") => `(tactic| skip)
local macro_rules | `(tactic| walk_at "ZZ4") => `(tactic| skip)
local macro_rules | `(tactic| walk_at "ZZ5") => `(tactic| skip)
local macro_rules | `(tactic| walk_at "ZZ6") => `(tactic| skip)
local macro_rules | `(tactic| walk_at "ZZ7") => `(tactic| skip)
local macro_rules | `(tactic| walk_at "ZZ8") => `(tactic| skip)
local macro_rules | `(tactic| walk_at "ZZ9") => `(tactic| skip)
local macro_rules | `(tactic| walk_at "ZZ10") => `(tactic| skip)
local macro_rules | `(tactic| walk_at "ZZ11") => `(tactic| skip)
local macro_rules | `(tactic| walk_at "ZZ12") => `(tactic| skip)
local macro_rules | `(tactic| walk_at "ZZ13") => `(tactic| skip)
local macro_rules | `(tactic| walk_at "ZZ14") => `(tactic| skip)
local macro_rules | `(tactic| walk_at "ZZ15") => `(tactic| skip)
local macro_rules | `(tactic| walk_at "ZZ16") => `(tactic| skip)
local macro_rules | `(tactic| walk_at "ZZ17") => `(tactic| skip)
local macro_rules | `(tactic| walk_at "ZZ18") => `(tactic| skip)
local macro_rules | `(tactic| walk_at "ZZ19") => `(tactic| skip)
local macro_rules | `(tactic| walk_at "ZZ20") => `(tactic| skip)
local macro_rules | `(tactic| walk_at "ZZ21") => `(tactic| skip)
local macro_rules | `(tactic| walk_at "ZZ22") => `(tactic| skip)
local macro_rules | `(tactic| walk_at "ZZ23") => `(tactic| skip)
local macro_rules | `(tactic| walk_at "ZZ24") => `(tactic| skip)
local macro_rules | `(tactic| walk_at "ZZ25") => `(tactic| skip)
local macro_rules | `(tactic| walk_at "ZZ26") => `(tactic| skip)
local macro_rules | `(tactic| walk_at "ZZ27") => `(tactic| skip)
local macro_rules | `(tactic| walk_at "ZZ28") => `(tactic| skip)
local macro_rules | `(tactic| walk_at "ZZ29") => `(tactic| skip)
theorem rs14 {M : Model} {A : Around} {E : Value → Shared → Prop} {s : Shared} {env : Env} {pos : Pos} {Q : Flow → Shared → Prop} (h : wpAny M A (exec (.Pass pos) env) Q E s) : wpAny M A (exec (.Pass pos) env) Q E s := by
  w_top off
  first | (walk1; fail) | exact h
end Mine
end
section
open PySem PySem.W PySem.Calls PyProof.Rows
set_option maxRecDepth 100000
set_option maxHeartbeats 2000000
set_option rowWalk.seconds 0
namespace Mine
local macro_rules | `(tactic| k_all) => `(tactic| assumption)
local macro_rules | `(tactic| walk_at "call builtin:len") => `(tactic| (k_here; (with_reducible show wpAny _ _ (call (Value.builtin "len") [Value.ref _]) _ _ _); k_dflt (refine kda_len (knd := PySem.intKind _ _) (by k_asm) (by k_mem) (by k_asm) (by k_asm) (by omega) ?_)))
local macro_rules | `(tactic| walk_at "getAttr ref") => `(tactic| (k_here; k_dflt (refine' getS_own ?k1 ?k2 ?k3 ?k4 ?k5 ?k6 ?k7 ?k8 ?k9 ?_; (case k1 => k_asm); (case k2 => k_asm); (case k3 => k_inst); (case k4 => k_is); (case k5 => k_is); (case k6 => k_is); (case k7 => k_is); (case k8 => k_get); (case k9 => k_handed); k_whole)))
local macro_rules | `(tactic| walk_at "getMethod ref") => `(tactic| (k_here; k_dflt (first | (refine' methS_inst ?k1 ?k2 ?k3 ?k4 ?k5 ?k6 ?k7 ?_; (case k1 => k_asm); (case k2 => k_asm); (case k3 => k_inst); (case k4 => k_is); (case k5 => k_is); (case k6 => k_is); (case k7 => k_get); k_whole) | (refine' dictS_getm (News.get (by k_asm) (by k_mem)) ?_; k_whole))))
local macro_rules | `(tactic| walk_at "call builtin:dict.get") => `(tactic| (k_here; (with_reducible show wpAny _ _ (call (Value.builtin "dict.get") [Value.ref _, Value.str _ _, _]) _ _ _); k_dflt (refine' dictS_get2 (News.get (by k_asm) (by k_mem)) ?k ?y ?l ?_; (case k => assumption); (case y => assumption); (case l => k_get); k_whole)))
local macro_rules | `(tactic| walk_at "setItem ref str") => `(tactic| (k_here; k_dflt (refine' dictS_set ?F ?N ?U ?k ?l ?z ?_; (case F => k_asm); (case N => k_asm); (case U => k_upd); (case k => assumption); (case l => k_get); (case z => simp); k_whole); intro h' F' N'))
local macro_rules | `(tactic| walk_at "call builtin:hasattr") => `(tactic| (k_here; k_dflt (refine' hasattr_K ?F ?X ?N ?I rfl ?g ?hh ?ha ?c ?l ?cd ?fo ?n ?z ?mo ?_; (case F => k_asm); (case X => k_asm); (case N => k_asm); (case I => k_inst); (case g => k_is); (case hh => k_is); (case ha => k_is); (case c => decide +kernel); (case l => (refine lookS ?_; k_get)); (case cd => k_is); (case fo => decide +kernel); (case n => decide +kernel); (case z => decide +kernel); (case mo => k_is); k_whole); intro h' tk' F' N'))
local macro_rules | `(tactic| walk_at "call type:list") => `(tactic| (k_here; (with_reducible show wpAny _ _ (call (Value.type "list") [Value.ref _]) _ _ _); k_dflt (refine' list_dictI rfl ?F ?N ?p ?d ?l ?n ?_; (case F => k_asm); (case N => k_asm); (case p => k_mem); (case d => assumption); (case l => assumption); (case n => omega); k_whole); intro B' c' h' tk' vs' F' N' l1 i'; (try k_lt l1)))
local macro_rules | `(tactic| walk_at "compareOp NotIn int ref") => `(tactic| (k_here; k_dflt (refine' kdg_notin (knd := PySem.intKind _ _) ?N ?p ?d ?l (intKind_is _ _ _ _) _ ?b ?_; (case N => k_asm); (case p => k_mem); (case d => assumption); (case l => assumption); (case b => assumption); k_whole)))
local macro_rules | `(tactic| walk_at "setItem ref int") => `(tactic| (k_here; k_dflt (refine' kda_set (knd := PySem.intKind _ _) ?F ?N ?U ?d (intKind_is _ _ _ _) ?z ?_; (case F => k_asm); (case N => k_asm); (case U => k_updF); (case d => assumption); (case z => assumption)); intro h' o' F' N' hd'; (try dsimp only at N')))
local macro_rules | `(tactic| walk_at "subscriptTail") => `(tactic| (k_here; k_dflt (refine kdt_tail (knd := PySem.intKind _ _) (by k_asm) (by k_mem) (by k_asm) ?_)))
local macro_rules | `(tactic| walk_at "getItem ref int") => `(tactic| (k_here; k_dflt (refine kdt_getItem (knd := PySem.intKind _ _) (by k_asm) (by k_mem) (by k_asm) (intKind_is _ _ _ _) (by assumption) ?_)))
local macro_rules | `(tactic| walk_at "RUNFOR") => `(tactic| repeat' (first | ((fail_if_success (with_reducible show wpAny _ _ (exec (Stmt.For _ _ _ _ _) _) _ _ _)); (fail_if_success (with_reducible show wpAny _ _ (pyIter _) _ _ _)); first | (k_unfold; (try dsimp only)) | walk1 | (dsimp only; walk1) | (leave1; try dsimp only))))
local macro_rules | `(tactic| walk_at "call builtin:list.append") => `(tactic| (k_here; (with_reducible show wpAny _ _ (call (Value.builtin _) [Value.ref _, _]) _ _ _); k_dflt (refine' append_K ?k1 ?k2 ?k3 ?_ ?z; (case k1 => k_asm); (case k2 => k_asm); (case k3 => k_upd); (case z => (rw [List.size_toArray, sizeLine_eq]; omega)); k_whole); intro h' F' N'; (try k_sweep)))
local macro_rules | `(tactic| walk_at "exec Assign cons DictComp") => `(tactic| (k_here; k_dflt (refine' dcomp (fun _ => True) (cl := []) ?hsw ?hh ?hclos ?hcell ?hkind ?hnames ?hx ?hdx ?hy ?hp ?hv ?_ ?hs; (case hsw => with_unfolding_all rfl); (case hh => with_unfolding_all rfl); (case hclos => with_unfolding_all rfl); (case hcell => decide); (case hkind => rfl); (case hnames => decide); (case hx => rfl); (case hdx => decide); (case hy => rfl); (case hp => rfl); (case hv => (intro _ s _; exact wpAny_Constant_bool ⟨trivial, s.heap, s.toks, rfl, fun _ _ e => e⟩)); (case hs => intro _; with_unfolding_all rfl))))
theorem Walks.weaken {prog : Program} {w : World} {A : Around} {I : Addr} {fp wr : List Addr} {n : Nat} {P P' : Nat → Value → Prop} {St : Nat → Heap → Prop} (W : Walks prog w A I fp wr n P St) (h : ∀ i v, i < n → P i v → P' i v) : Walks prog w A I fp wr n P' St where
  sub := W.sub
  frame := W.frame
  item := fun i s Q E hi st hQ => W.item i s Q E hi st fun v h' tk hP => hQ v h' tk (h i v hi hP)
  done := W.done
  self := W.self
/-- the neighbours of a node -/
def nbrsOf (adj : List (Int × List Int)) (n : Int) : List Int := match adj.find? (fun p => p.1 == n) with
  | some p => p.2
  | none => []
def addAll (q : List Int) : List Int → List Int
  | [] => q
  | x :: r => addAll (if decide (x ∈ q) = true then q else q ++ [x]) r
def bfs (adj : List (Int × List Int)) : Nat → Nat → List Int → List Int
  | 0, _, q => q
  | f + 1, i, q => match q[i]? with
    | none => q
    | some n => bfs adj f (i + 1) (addAll q (nbrsOf adj n))
theorem nbrsOf_at {adj : List (Int × List Int)} (hn : (adj.map (·.1)).Nodup) {i : Nat} {k : Int} {ns : List Int} (h : adj[i]? = some (k, ns)) : nbrsOf adj k = ns := by
  unfold nbrsOf
  induction adj generalizing i with
  | nil => simp at h
  | cons p r ih =>
    rw [List.map_cons, List.nodup_cons] at hn
    rw [List.find?_cons]
    cases i with
    | zero =>
      simp only [List.getElem?_cons_zero, Option.some.injEq] at h
      rw [h]
      simp
    | succ i =>
      simp only [List.getElem?_cons_succ] at h
      have hm : k ∈ r.map (·.1) := List.mem_map.mpr ⟨_, List.mem_of_getElem? h, rfl⟩
      have hne : (p.1 == k) = false := by
        rw [beq_eq_false_iff_ne]
        exact fun e => hn.1 (by rw [e]; exact hm)
      rw [hne]
      exact ih hn.2 h
theorem addAll_nodup : ∀ (r q : List Int), q.Nodup → (addAll q r).Nodup
  | [], q, h => h
  | x :: r, q, h => by
    rw [addAll]
    by_cases hx : x ∈ q
    · rw [if_pos (decide_eq_true hx)]; exact addAll_nodup r q h
    · rw [if_neg (by simpa using hx)]
      refine addAll_nodup r _ ?_
      rw [List.nodup_append]
      exact ⟨h, by simp, fun a ha b hb e => by rw [List.mem_singleton] at hb; exact hx (by rw [← hb, ← e]; exact ha)⟩
theorem addAll_sub {K : List Int} : ∀ (r q : List Int), (∀ z ∈ q, z ∈ K) → (∀ z ∈ r, z ∈ K) → ∀ z ∈ addAll q r, z ∈ K
  | [], q, h, _ => h
  | x :: r, q, h, hr => by
    rw [addAll]
    refine addAll_sub r _ (fun z hz => ?_) fun z hz => hr z (.tail _ hz)
    split at hz
    · exact h z hz
    · rcases List.mem_append.mp hz with hz | hz
      · exact h z hz
      · rw [List.mem_singleton.mp hz]; exact hr x (.head _)
theorem addAll_len : ∀ (r q : List Int), q.length ≤ (addAll q r).length
  | [], q => Nat.le_refl _
  | x :: r, q => by
    rw [addAll]
    refine Nat.le_trans ?_ (addAll_len r _)
    split
    · exact Nat.le_refl _
    · rw [List.length_append]; omega
theorem bfs_end {adj : List (Int × List Int)} {q : List Int} {i : Nat} (h : q.length ≤ i) : ∀ f, bfs adj f i q = q
  | 0 => rfl
  | f + 1 => by rw [bfs, List.getElem?_eq_none h]
theorem bfs_step {adj : List (Int × List Int)} {q : List Int} {i f : Nat} {n : Int} (h : q[i]? = some n) : bfs adj (f + 1) i q = bfs adj f (i + 1) (addAll q (nbrsOf adj n)) := by rw [bfs, h]
theorem fr_pick3 {g h : Heap} {L : Addr} {m : Str → Option Value} {x x2 x3 : Str} {v v2 v3 : Value} (F : Fr g L h m) (e : m x = some v) (e2 : m x2 = some v2) (e3 : m x3 = some v3) : ∃ M : Str → Option Value, Fr g L h (fun y => if y = x then some v else if y = x2 then some v2 else if y = x3 then some v3 else M y) := by
  refine ⟨m, ?_⟩
  have : (fun y => if y = x then some v else if y = x2 then some v2 else if y = x3 then some v3 else m y) = m := by
    funext y
    by_cases q : y = x
    · rw [if_pos q, q, e]
    · rw [if_neg q]
      by_cases q2 : y = x2
      · rw [if_pos q2, q2, e2]
      · rw [if_neg q2]
        by_cases q3 : y = x3
        · rw [if_pos q3, q3, e3]
        · rw [if_neg q3]
  rw [this]
  exact F
def RInv (w : World) (g1 : Heap) (L1 I q D aa : Addr) (R : List (Addr × Obj)) (adj : List (Int × List Int)) (s₀ : Shared) (target : List Int) (k : Nat) (s : Shared) : Prop :=
  ∃ (i cq : Nat) (M : Str → Option Value) (kvs : List (Int × Value)) (vs : List Value) (oD oI : Obj),
    Fr g1 L1 s.heap (fun y => if y = Str.ofString "queue" then some (.ref q) else if y = Str.ofString "seen" then some (.ref D) else if y = Str.ofString "neighbors" then some (.ref aa) else M y) ∧
    News g1 L1 s.heap ((I, oI) :: (q, listOf (List.toArray vs) cq) :: (D, oD) :: R) ∧ oI.cls = .type "list_iterator" ∧ oI.data = .fields #[.ref q, .int i 0] ∧ oD.IsDictOf (PySem.intKind PP w) kvs ∧ IntsAre vs (kvs.map (·.1)) ∧ (kvs.map (·.1)).Nodup ∧
    (∀ z ∈ kvs.map (·.1), z ∈ adj.map (·.1)) ∧ bfs adj (adj.length + 1 - i) i (kvs.map (·.1)) = target ∧ i ≤ kvs.length ∧ s.gens = s₀.gens ∧ s.drawn = s₀.drawn ∧ s.os = s₀.os ∧ k = adj.length + 1 - i
def RInv2 (w : World) (g1 : Heap) (L1 I2 I q D aa x : Addr) (oI : Obj) (R : List (Addr × Obj)) (adj : List (Int × List Int)) (s₀ : Shared) (cur nbrs : List Int) (ep : Nat) (k : Nat) (s : Shared) : Prop :=
  ∃ (j cq : Nat) (M : Str → Option Value) (kvs : List (Int × Value)) (vs : List Value) (oD oI2 : Obj),
    Fr g1 L1 s.heap (fun y => if y = Str.ofString "queue" then some (.ref q) else if y = Str.ofString "seen" then some (.ref D) else if y = Str.ofString "neighbors" then some (.ref aa) else M y) ∧
    News g1 L1 s.heap ((I2, oI2) :: (I, oI) :: (q, listOf (List.toArray vs) cq) :: (D, oD) :: R) ∧ oI2.cls = .type "dict_keyiterator" ∧ oI2.data = .fields #[.ref x, .int j 0, .int nbrs.length 0, .int ep 0] ∧ oD.IsDictOf (PySem.intKind PP w) kvs ∧ IntsAre vs (kvs.map (·.1)) ∧ (kvs.map (·.1)).Nodup ∧
    (∀ z ∈ kvs.map (·.1), z ∈ adj.map (·.1)) ∧ addAll (kvs.map (·.1)) (nbrs.drop j) = addAll cur nbrs ∧ cur.length ≤ kvs.length ∧ j ≤ nbrs.length ∧ s.gens = s₀.gens ∧ s.drawn = s₀.drawn ∧ s.os = s₀.os ∧ k = nbrs.length - j
theorem ints_at {vs : List Value} {ns : List Int} (h : IntsAre vs ns) {i : Nat} (hi : i < ns.length) : ∃ n t, vs[i]? = some (.int n t) ∧ ns[i]? = some n := by
  obtain ⟨t, ht⟩ := h.get i ns[i] (List.getElem?_eq_getElem hi)
  exact ⟨_, t, ht, List.getElem?_eq_getElem hi⟩
theorem reached_spec {w : World} {mean : ExcName → Option Value} {mg mb : Str → Option Value} {gd : Option (List Code)} {cn : Str} {nms : List (Str × NameKind)} {sg sc : Bool} {mo : List (Str × Const)} {a : Addr} {ccd : Value} {cl : List (Str × Addr)} {outer : List Env} {A₀ : Around} {base h₀ : Heap} {L : Addr} {m : Str → Option Value} {rest : List (Addr × Obj)} {s : Shared}
    {Q E : Value → Shared → Prop} {aa l : Addr} {k0 : Int} {t0 : Tok} {c0 : Nat} {oa : Obj} {aks : List (Int × Value)} {adj : List (Int × List Int)} {tl : List (Addr × Obj)}
    (B : Below A₀ base outer h₀) (F : Fr h₀ L s.heap m) (X : (hd.heap_39 w.params).In h₀) (N : News h₀ L s.heap ((l, listOf #[.int k0 t0] c0) :: (aa, oa) :: (tl ++ rest))) (T : Top TP LS mean mg mb h₀)
    (hoa : oa.IsDictOf (PySem.intKind PP w) aks) (laa : (aa == sysModules) = false) (hinn : Inn (prog := PP) w tl aks adj) (hlen : adj.length ≤ 11) (hcl : Closed adj) (hnd : (adj.map (·.1)).Nodup) (hk0 : k0 ∈ adj.map (·.1))
    (h : ∀ h' tk q vs c, Fr h₀ L h' m → News h₀ L h' ((q, listOf (List.toArray vs) c) :: (l, listOf #[.int k0 t0] c0) :: (aa, oa) :: (tl ++ rest)) → IntsAre vs (bfs adj (adj.length + 1) 0 [k0]) → vs.length ≤ 11 → Q (.ref q) { s with heap := h', toks := tk }) :
    wpAny (model PP w) (ktrTop 303 10 gd cn { kind := .function, names := nms, isGenerator := sg, isCoroutine := sc, more := mo } L a ccd cl outer) (call (.ref 649) [.ref aa, .ref l]) Q E s := by
  refine of_mk ?_
  k_fill
  intro _
  walk_at "RUNFOR"
  rotate_left 1
  rename_i g1 L1 h1 FG1 F1 N1 B1 X1 T1
  have hl1 : h1.IsList l #[.int k0 t0] := ⟨_, (N1 (l, _) (.head _)).1, rfl, c0, rfl⟩
  have hlt1 : ∀ p ∈ (l, listOf #[.int k0 t0] c0) :: (aa, oa) :: (tl ++ rest), p.1 < h1.objs.size := fun p hp => Heap.lt_size (N1 p hp).1
  have hg1n : g1.get? h1.objs.size = none := by
    cases q : g1.get? h1.objs.size with
    | none => rfl
    | some o => exact absurd (Heap.lt_size (F1.keep _ _ q)) (Nat.lt_irrefl _)
  refine wpAny_pyIter_list hl1 ?_
  refine ⟨h1.objs.size, [h1.objs.size, l], [h1.objs.size], 1, fun _ => k0, _, _, (l, listOf #[.int k0 t0] c0) :: (aa, oa) :: (tl ++ rest), rfl,
    Walks.weaken (Walks.list rfl h1.objs.size l (Nat.ne_of_lt (hlt1 _ (.head _))) #[.int k0 t0]) (fun i v hi hP => ?_), ⟨⟨_, Heap.get?_push_size _ rfl, rfl, rfl⟩, hl1.push _⟩, fun b hb => ?_, by rw [sizeLine_eq]; decide, F1.push _, fun p hp => ⟨Heap.get?_push_of_some _ (N1 p hp).1, (N1 p hp).2⟩,
    fun p hp => ?_, fun b hb => ?_, by simp, fun D oD kvs h2 tk2 F2 N2 hd2 hk2 _ hDn hDne hDs => ?_⟩
  · have hi0 : i = 0 := Nat.lt_one_iff.mp hi
    subst hi0
    simp only [List.getElem?_toArray, List.getElem?_cons_zero, Option.some.injEq] at hP
    exact ⟨t0, hP.symm⟩
  · show b < (h1.push _).objs.size
    rw [Heap.size_push]
    simp only [List.mem_cons, List.not_mem_nil, or_false] at hb
    rcases hb with rfl | rfl
    · exact Nat.lt_succ_self _
    · exact Nat.lt_succ_of_lt (hlt1 _ (.head _))
  · rw [List.mem_singleton]; exact Nat.ne_of_lt (hlt1 p hp)
  · rw [List.mem_singleton.mp hb]
    exact ⟨hg1n, Ne.symm (Nat.ne_of_lt F1.ns.lt)⟩
  have hDsys : (D == sysModules) = false := not_sys T1 (fun b o e => Heap.get?_push_of_some _ (F1.keep b o e)) (Nat.le_of_eq hDs.symm)
  clear F1 N1
  have hkl2 : kvs.length ≤ 16777216 := by
    have := congrArg List.length hk2
    rw [List.length_map, List.length_map, List.length_range] at this
    omega
  walk_at "RUNFOR"
  rename_i q cq h3 tk3 vs F3 N3 hvs l3 h4 F4 N4
  clear F3 N3
  have F4' : Fr g1 L1 h4 _ := F4
  have N4' : News g1 L1 h4 _ := N4
  obtain ⟨M4, F4''⟩ := fr_pick3 (x := Str.ofString "queue") (x2 := Str.ofString "seen") (x3 := Str.ofString "neighbors") (v := .ref q) (v2 := .ref D) (v3 := .ref aa) F4' (by kernel_rfl) (by kernel_rfl) (by kernel_rfl)
  clear F4 N4 F4'
  refine For_I ?_
  k_steps
  have hq4 : h4.IsList q vs.toArray := ⟨_, (N4' (q, _) (.head _)).1, rfl, cq, rfl⟩
  refine wpAny_pyIter_list hq4 ?_
  have hn2 : (kvs.map (·.1)) = [k0] := by rw [hk2]; rfl
  have hltI : ∀ p ∈ (q, listOf (List.toArray vs) cq) :: (D, oD) :: (l, listOf #[.int k0 t0] c0) :: (aa, oa) :: (tl ++ rest), p.1 < h4.objs.size := fun p hp => Heap.lt_size (N4' p hp).1
  have hgI : g1.get? h4.objs.size = none := by
    cases e : g1.get? h4.objs.size with
    | none => rfl
    | some o => exact absurd (Heap.lt_size (F4''.keep _ _ e)) (Nat.lt_irrefl _)
  have hLI : L1 < h4.objs.size := F4''.ns.lt
  have hDlt : ∀ p ∈ (l, listOf #[.int k0 t0] c0) :: (aa, oa) :: (tl ++ rest), p.1 < D := hDne
  refine ⟨RInv w g1 L1 h4.objs.size q D aa ((l, listOf #[.int k0 t0] c0) :: (aa, oa) :: (tl ++ rest)) adj { heap := h4, gens := s.gens, drawn := s.drawn, toks := tk3, os := s.os } (bfs adj (adj.length + 1) 0 [k0]), _, ⟨0, cq, M4, kvs, vs, oD, { cls := .type "list_iterator", data := .fields #[.ref q, .int 0 0] }, F4''.push _, fun p hp => ?_, rfl, rfl, hd2, hvs, by rw [hn2]; simp, fun z hz => ?_, by rw [hn2]; rfl, Nat.zero_le _, rfl, rfl, rfl, rfl⟩, ?_⟩
  · rcases List.mem_cons.mp hp with rfl | hp
    · exact ⟨Heap.get?_push_size _ rfl, Ne.symm (Nat.ne_of_lt hLI), hgI⟩
    · exact ⟨Heap.get?_push_of_some _ (N4' p hp).1, (N4' p hp).2⟩
  · rw [hn2, List.mem_singleton] at hz
    rw [hz]; exact hk0
  clear F4'' N4' hq4
  rintro k s' ⟨i, cq', M, kvs', vs', oD', oI, F5, N5, hI1, hI2, hd5, hvs5, hnd5, hsub5, hb5, hi5, hg5, hdr5, hos5, hk5⟩
  have hlen5 : kvs'.length ≤ adj.length := by
    have := nodup_le hnd5 hsub5
    simpa using this
  have hli : s'.heap.IsListIter h4.objs.size q i := ⟨oI, (N5 _ (.head _)).1, hI1, hI2⟩
  have hql : s'.heap.IsList q vs'.toArray := ⟨_, (N5 _ (.tail _ (.head _))).1, rfl, cq', rfl⟩
  have hvl5 : vs'.length = kvs'.length := by have := hvs5.length; rw [List.length_map] at this; exact this
  rcases Nat.lt_or_ge i kvs'.length with hlt | hge
  · obtain ⟨n, tn, hv1, hv2⟩ := ints_at hvs5 (by rw [List.length_map]; exact hlt)
    refine wpAny_pyNext_list_item hli hql (by rw [List.getElem?_toArray]; exact hv1) fun h6 hli6 hs6 => ?_
    dsimp only
    refine wpAny_of_eq (a := ()) rfl ?_
    obtain ⟨oI6, hoI6, hI61, hI62⟩ := hli6
    have hnk : n ∈ adj.map (·.1) := hsub5 n (List.mem_of_getElem? hv2)
    obtain ⟨i2, hi2, hn2'⟩ := List.getElem_of_mem hnk
    rw [List.length_map] at hi2
    obtain ⟨k', x, ox, kvi, ha1, ha2, ha3, ha4, ha5⟩ := hinn.at i2 hi2
    have hkn : k' = n := by
      rw [← hn2', List.getElem_map]
      rw [List.getElem?_eq_getElem hi2] at ha2
      rw [Option.some.inj ha2]
    subst hkn
    have hva : valueAt aks k' = some (.ref x) := va_at (by rw [hinn.keys]; exact hnd) ha1
    have F6 : Fr g1 L1 h6 _ := ⟨F5.ns.at' fun o e => (hs6.2 _ (Nat.ne_of_lt hLI)).trans e, fun b o e => (hs6.2 b (fun c => by rw [c, hgI] at e; cases e)).trans (F5.keep b o e), F5.above⟩
    have N6 : News g1 L1 h6 ((h4.objs.size, oI6) :: (q, listOf (List.toArray vs') cq') :: (D, oD') :: (x, ox) :: (l, listOf #[.int k0 t0] c0) :: (aa, oa) :: (tl ++ rest)) := fun p hp => by
      have old : ∀ p ∈ (q, listOf (List.toArray vs') cq') :: (D, oD') :: (l, listOf #[.int k0 t0] c0) :: (aa, oa) :: (tl ++ rest), h6.get? p.1 = some p.2 ∧ p.1 ≠ L1 ∧ g1.get? p.1 = none := fun p hp => by
        have hlt : p.1 < h4.objs.size := by
          rcases List.mem_cons.mp hp with rfl | hp
          · exact hltI (q, listOf (List.toArray vs) cq) (.head _)
          · rcases List.mem_cons.mp hp with rfl | hp
            · exact hltI (D, oD) (.tail _ (.head _))
            · exact hltI p (.tail _ (.tail _ hp))
        exact ⟨(hs6.2 _ (Nat.ne_of_lt hlt)).trans (N5 p (.tail _ hp)).1, (N5 p (.tail _ hp)).2⟩
      simp only [List.mem_cons, List.mem_append] at hp old
      rcases hp with h | h | h | h | h | h | h | h
      · rw [h]; exact ⟨hoI6, Ne.symm (Nat.ne_of_lt hLI), hgI⟩
      · exact old p (by simp only [h, true_or, or_true])
      · exact old p (by simp only [h, true_or, or_true])
      · rw [h]; exact old (x, ox) (by simp only [ha3, true_or, or_true])
      · exact old p (by simp only [h, true_or, or_true])
      · exact old p (by simp only [h, true_or, or_true])
      · exact old p (by simp only [h, true_or, or_true])
      · exact old p (by simp only [h, true_or, or_true])
    clear F5 N5
    walk_at "RUNFOR"
    rename_i h7 F7 N7
    have F7' : Fr g1 L1 h7 _ := F7
    have N7' : News g1 L1 h7 _ := N7
    refine For_I ?_
    walk_at "RUNFOR"
    obtain ⟨M7, F7''⟩ := fr_pick3 (x := Str.ofString "queue") (x2 := Str.ofString "seen") (x3 := Str.ofString "neighbors") (v := .ref q) (v2 := .ref D) (v3 := .ref aa) F7' (by kernel_rfl) (by kernel_rfl) (by kernel_rfl)
    obtain ⟨ep, hat⟩ := KdkAt.of ha4
    refine wpAny_pyIter_dict (knd := PySem.intKind PP w) (kvs := kvi) (ep := ep) ha5 (hat.dictAt (N7' (x, ox) (by simp)).1) ?_
    have hlt7 : ∀ p ∈ (h4.objs.size, oI6) :: (q, listOf (List.toArray vs') cq') :: (D, oD') :: (x, ox) :: (l, listOf #[.int k0 t0] c0) :: (aa, oa) :: (tl ++ rest), p.1 < h7.objs.size := fun p hp => Heap.lt_size (N7' p hp).1
    have hgI2 : g1.get? h7.objs.size = none := by
      cases e : g1.get? h7.objs.size with
      | none => rfl
      | some o => exact absurd (Heap.lt_size (F7''.keep _ _ e)) (Nat.lt_irrefl _)
    have hLI2 : L1 < h7.objs.size := F7''.ns.lt
    have hnbl : (kvi.map (·.1)).length = kvi.length := List.length_map ..
    have hqI : q < h4.objs.size := hltI (q, listOf (List.toArray vs) cq) (.head _)
    have hII2 : h4.objs.size < h7.objs.size := hlt7 _ (.head _)
    refine ⟨RInv2 w g1 L1 h7.objs.size h4.objs.size q D aa x oI6 ((x, ox) :: (l, listOf #[.int k0 t0] c0) :: (aa, oa) :: (tl ++ rest)) adj { heap := h7, gens := s'.gens, drawn := s'.drawn, toks := s'.toks, os := s'.os } (kvs'.map (·.1)) (kvi.map (·.1)) ep, _,
      ⟨0, cq', M7, kvs', vs', oD', { cls := .type "dict_keyiterator", data := .fields #[.ref x, .int 0 0, .int kvi.length 0, .int ep 0] }, F7''.push _, fun p hp => ?_, rfl, by rw [hnbl]; rfl, hd5, hvs5, hnd5, hsub5, rfl, by rw [List.length_map]; exact Nat.le_refl _, Nat.zero_le _, rfl, rfl, rfl, rfl⟩, ?_⟩
    · rcases List.mem_cons.mp hp with rfl | hp
      · exact ⟨Heap.get?_push_size _ rfl, Ne.symm (Nat.ne_of_lt hLI2), hgI2⟩
      · exact ⟨Heap.get?_push_of_some _ (N7' p hp).1, (N7' p hp).2⟩
    clear F7'' N7' F7' F7 N7
    rintro k2 s8 ⟨j, cq8, M8, kvs8, vs8, oD8, oI8, F8, N8, hI81, hI82, hd8, hvs8, hnd8, hsub8, hadd8, hcur8, hj8, hg8, hdr8, hos8, hk8⟩
    have hxD : x < D := hDlt (x, ox) (List.mem_cons_of_mem _ (List.mem_cons_of_mem _ (List.mem_append_left _ ha3)))
    have hit8 : s8.heap.IsKeyIter h7.objs.size x j kvi.length ep := ⟨oI8, (N8 _ (.head _)).1, hI81, by rw [hI82, hnbl]⟩
    have hda8 := hat.dictAt (N8 (x, ox) (by simp)).1
    rcases Nat.lt_or_ge j kvi.length with hjlt | hjge
    · obtain ⟨⟨y, xv⟩, hxy⟩ : ∃ p, kvi[j]? = some p := ⟨kvi[j], List.getElem?_eq_getElem hjlt⟩
      refine wpAny_pyNext_dict_item hit8 hda8 hxy fun key h9 hkey hit9 hs9 => ?_
      obtain ⟨ty, rfl⟩ := Value.isInt_shape hkey
      dsimp only
      refine wpAny_of_eq (a := ()) rfl ?_
      obtain ⟨oI9, hoI9, hI91, hI92⟩ := hit9
      have F9 : Fr g1 L1 h9 _ := ⟨F8.ns.at' fun o e => (hs9.2 _ (Nat.ne_of_lt hLI2)).trans e, fun b o e => (hs9.2 b (fun c => by rw [c, hgI2] at e; cases e)).trans (F8.keep b o e), F8.above⟩
      have N9 : News g1 L1 h9 ((h7.objs.size, oI9) :: (h4.objs.size, oI6) :: (q, listOf (List.toArray vs8) cq8) :: (D, oD8) :: (x, ox) :: (l, listOf #[.int k0 t0] c0) :: (aa, oa) :: (tl ++ rest)) := fun p hp => by
        rcases List.mem_cons.mp hp with rfl | hp
        · exact ⟨hoI9, Ne.symm (Nat.ne_of_lt hLI2), hgI2⟩
        · have hlt : p.1 < h7.objs.size := by
            rcases List.mem_cons.mp hp with rfl | hp
            · exact hII2
            · rcases List.mem_cons.mp hp with rfl | hp
              · exact Nat.lt_trans hqI hII2
              · rcases List.mem_cons.mp hp with rfl | hp
                · exact hlt7 (D, oD') (by simp)
                · exact hlt7 p (List.mem_cons_of_mem _ (List.mem_cons_of_mem _ (List.mem_cons_of_mem _ hp)))
          exact ⟨(hs9.2 _ (Nat.ne_of_lt hlt)).trans (N8 p (.tail _ hp)).1, (N8 p (.tail _ hp)).2⟩
      have hvl8 : vs8.length = kvs8.length := by have := hvs8.length; rw [List.length_map] at this; exact this
      have hlen8 : kvs8.length ≤ adj.length := by
        have := nodup_le hnd8 hsub8
        simpa using this
      have o1 : @LT.lt Nat _ D q := l3.1
      have o2 : @LT.lt Nat _ l D := hDlt _ (.head _)
      have o3 : @LT.lt Nat _ aa D := hDlt _ (.tail _ (.head _))
      have o4 : @LT.lt Nat _ x D := hxD
      have o5 : @LT.lt Nat _ q h4.objs.size := hqI
      have o6 : @LT.lt Nat _ h4.objs.size h7.objs.size := hII2
      have o7 : ∀ p ∈ tl ++ rest, p.1 ≠ D := fun p hp => Nat.ne_of_lt (hDlt p (List.mem_cons_of_mem _ (List.mem_cons_of_mem _ hp)))
      have o8 : ∀ p ∈ tl ++ rest, p.1 ≠ q := fun p hp => Nat.ne_of_lt (Nat.lt_trans (hDlt p (List.mem_cons_of_mem _ (List.mem_cons_of_mem _ hp))) l3.1)
      have hz8 : kvs8.length ≤ sizeLine := by rw [sizeLine_eq]; omega
      have hkeys : (kvi.map (·.1))[j]? = some y := by rw [List.getElem?_map, hxy]; rfl
      have hdrop := drop_at hkeys
      have hyk : y ∈ adj.map (·.1) := hcl _ (List.mem_of_getElem? ha2) y (List.mem_of_getElem? hkeys)
      clear F8 N8
      by_cases hm : y ∈ kvs8.map (·.1)
      · have hb : (valueAt kvs8 y).isSome = true := by rw [va_isSome]; exact decide_eq_true hm
        k_steps
        rename_i hz Fz Nz tkz
        obtain ⟨Mz, Fz'⟩ := fr_pick3 (x := Str.ofString "queue") (x2 := Str.ofString "seen") (x3 := Str.ofString "neighbors") (v := .ref q) (v2 := .ref D) (v3 := .ref aa) Fz (by kernel_rfl) (by kernel_rfl) (by kernel_rfl)
        refine ⟨(kvi.map (·.1)).length - (j + 1), ?_, j + 1, cq8, Mz, kvs8, vs8, oD8, oI9, Fz', Nz, hI91, by rw [hI92, hnbl], hd8, hvs8, hnd8, hsub8, ?_, hcur8, by rw [hnbl]; exact hjlt, hg8, hdr8, hos8, rfl⟩
        · rw [hk8, hnbl]; omega
        · rw [← hadd8, hdrop, addAll, if_pos (decide_eq_true hm)]
      · have hb : (valueAt kvs8 y).isSome = false := by rw [va_isSome]; exact decide_eq_false hm
        k_steps
        rename_i od hdz hz Fz Nz
        obtain ⟨Mz, Fz'⟩ := fr_pick3 (x := Str.ofString "queue") (x2 := Str.ofString "seen") (x3 := Str.ofString "neighbors") (v := .ref q) (v2 := .ref D) (v3 := .ref aa) Fz (by kernel_rfl) (by kernel_rfl) (by kernel_rfl)
        have hst := st_new kvs8 (.bool true) ((va_none_iff kvs8 y).mpr hm)
        rw [hst] at hdz
        have hmap : (kvs8 ++ [(y, Value.bool true)]).map (·.1) = kvs8.map (·.1) ++ [y] := by rw [List.map_append]; rfl
        refine ⟨(kvi.map (·.1)).length - (j + 1), ?_, j + 1, cq8 + 1, Mz, _, vs8 ++ [.int y ty], od, oI9, Fz', ?_, hI91, by rw [hI92, hnbl], hdz, ?_, ?_, ?_, ?_, ?_, by rw [hnbl]; exact hjlt, hg8, hdr8, hos8, rfl⟩
        · rw [hk8, hnbl]; omega
        · rw [show (vs8 ++ [Value.int y ty]).toArray = vs8.toArray.push (.int y ty) by simp]
          exact Nz
        · rw [hmap]; exact hvs8.append (.cons y ty .nil)
        · rw [hmap, List.nodup_append]
          exact ⟨hnd8, by simp, fun a ha b hb e => by rw [List.mem_singleton] at hb; exact hm (by rw [← hb, ← e]; exact ha)⟩
        · rw [hmap]
          intro z hz
          rcases List.mem_append.mp hz with hz | hz
          · exact hsub8 z hz
          · rw [List.mem_singleton.mp hz]; exact hyk
        · rw [← hadd8, hdrop, addAll, if_neg (by simpa using hm), hmap]
        · rw [List.length_append]; exact Nat.le_succ_of_le hcur8
    · refine wpAny_pyNext_dict_end rfl hit8 hda8 (List.getElem?_eq_none hjge) fun h9 hext9 => ?_
      dsimp only
      have hj : (kvi.map (·.1)).drop j = [] := List.drop_of_length_le (by rw [hnbl]; exact hjge)
      rw [hj, addAll] at hadd8
      have F9 : Fr g1 L1 h9 _ := ⟨F8.ns.at' fun o e => hext9 _ o (Nat.ne_of_lt hLI2) e, fun b o e => hext9 b o (fun c => by rw [c, hgI2] at e; cases e) (F8.keep b o e), F8.above⟩
      have N9 : News g1 L1 h9 ((h4.objs.size, oI6) :: (q, listOf (List.toArray vs8) cq8) :: (D, oD8) :: (l, listOf #[.int k0 t0] c0) :: (aa, oa) :: (tl ++ rest)) := fun p hp => by
        have hp' : p ∈ (h7.objs.size, oI8) :: (h4.objs.size, oI6) :: (q, listOf (List.toArray vs8) cq8) :: (D, oD8) :: (x, ox) :: (l, listOf #[.int k0 t0] c0) :: (aa, oa) :: (tl ++ rest) := by
          simp only [List.mem_cons, List.mem_append] at hp ⊢
          rcases hp with h | h | h | h | h | h | h <;> simp only [h, true_or, or_true]
        have hlt : p.1 < h7.objs.size := by
          rcases List.mem_cons.mp hp with rfl | hp
          · exact hII2
          · rcases List.mem_cons.mp hp with rfl | hp
            · exact Nat.lt_trans hqI hII2
            · rcases List.mem_cons.mp hp with rfl | hp
              · exact hlt7 (D, oD') (by simp)
              · exact hlt7 p (List.mem_cons_of_mem _ (List.mem_cons_of_mem _ (List.mem_cons_of_mem _ (List.mem_cons_of_mem _ hp))))
        exact ⟨hext9 _ _ (Nat.ne_of_lt hlt) (N8 p hp').1, (N8 p hp').2⟩
      clear F8 N8
      k_steps
      refine ⟨adj.length + 1 - (i + 1), by rw [hk5]; omega, i + 1, cq8, M8, kvs8, vs8, oD8, oI6, F9, N9, hI61, hI62, hd8, hvs8, hnd8, hsub8, ?_, ?_, hg8.trans hg5, hdr8.trans hdr5, hos8.trans hos5, rfl⟩
      · rw [← hb5, show adj.length + 1 - i = (adj.length + 1 - (i + 1)) + 1 by omega, bfs_step hv2, nbrsOf_at hnd ha2, hadd8]
      · rw [List.length_map] at hcur8
        omega
  · have hie : i = kvs'.length := Nat.le_antisymm hi5 hge
    refine wpAny_pyNext_list_end rfl hli hql (by rw [List.getElem?_toArray]; exact List.getElem?_eq_none (by omega)) fun h6 hext => ?_
    dsimp only
    have F6 : Fr g1 L1 h6 _ := ⟨F5.ns.at' fun o e => hext _ o (Nat.ne_of_lt hLI) e, fun b o e => hext b o (fun c => by rw [c, hgI] at e; cases e) (F5.keep b o e), F5.above⟩
    have N6 : News g1 L1 h6 ((q, listOf (List.toArray vs') cq') :: (l, listOf #[.int k0 t0] c0) :: (aa, oa) :: (tl ++ rest)) := fun p hp => by
      have hp' : p ∈ (h4.objs.size, oI) :: (q, listOf (List.toArray vs') cq') :: (D, oD') :: (l, listOf #[.int k0 t0] c0) :: (aa, oa) :: (tl ++ rest) := by
        simp only [List.mem_cons, List.mem_append] at hp ⊢
        rcases hp with h | h | h | h | h <;> simp only [h, true_or, or_true]
      have hlt : p.1 < h4.objs.size := by
        rcases List.mem_cons.mp hp with rfl | hp
        · exact hltI (q, listOf (List.toArray vs) cq) (.head _)
        · exact hltI p (List.mem_cons_of_mem _ (List.mem_cons_of_mem _ hp))
      exact ⟨hext _ _ (Nat.ne_of_lt hlt) (N5 p hp').1, (N5 p hp').2⟩
    clear F5 N5
    k_steps
    rename_i kF kN Tc kX
    have hs' : s' = { heap := s'.heap, gens := s.gens, drawn := s.drawn, toks := s'.toks, os := s.os } := by
      cases s'
      simp only at hg5 hdr5 hos5
      subst hg5; subst hdr5; subst hos5
      rfl
    rw [bfs_end (by rw [List.length_map]; exact hge)] at hb5
    have := h h6 s'.toks q vs' cq' kF kN (hb5 ▸ hvs5) (by omega)
    rw [hs']
    exact this
end Mine
end
section
open PySem PySem.W PySem.Calls PyProof.Rows
set_option maxRecDepth 100000
set_option maxHeartbeats 4000000
set_option rowWalk.seconds 0
namespace Mine
local macro_rules | `(tactic| k_all) => `(tactic| assumption)
theorem next_K {w : World} {mean : ExcName → Option Value} {mg mb : Str → Option Value} {gd : Option (List Code)} {cn : Str} {nms : List (Str × NameKind)} {sg sc : Bool} {mo : List (Str × Const)} {a : Addr} {ccd : Value} {cl : List (Str × Addr)} {outer : List Env} {A₀ : Around} {base h₀ : Heap} {L : Addr} {m : Str → Option Value} {news : List (Addr × Obj)} {g : Obj → List (Addr × Obj)} {s : Shared}
    {Q E : Value → Shared → Prop} {b : Addr} {x k : Int} {t tk : Tok} {n : Nat}
    (B : Below A₀ base outer h₀) (F : Fr h₀ L s.heap m) (X : (hd.heap_39 w.params).In h₀) (N : News h₀ L s.heap news) (T : Top TP LS mean mg mb h₀)
    (U : UpdF b (listOf #[.int x t] n) news g) (hx0 : 0 ≤ x) (hx1 : x < 2147483647) (hk : 1 ≤ k) (hk2 : k ≤ 100)
    (h : ∀ h' tk' x' t' r t2, Fr h₀ L h' m → News h₀ L h' (g (listOf #[.int x' t'] n)) → 0 ≤ x' → x' < 2147483647 → 0 ≤ r → r < k → Q (.int r t2) { s with heap := h', toks := tk' }) :
    wpAny (model PP w) (ktrTop 303 10 gd cn { kind := .function, names := nms, isGenerator := sg, isCoroutine := sc, more := mo } L a ccd cl outer) (call (.ref 687) [.ref b, .int k tk]) Q E s := by
  obtain ⟨own, rest, rfl, hgr, h1, h2⟩ := U.split
  have N1 : News h₀ L s.heap ((b, listOf #[.int x t] n) :: (own ++ rest)) := fun p hp => N p (by
    simp only [List.mem_cons, List.mem_append] at hp ⊢
    rcases hp with h | h | h <;> simp only [h, true_or, or_true])
  refine next_spec B F X N1 T (fun p hp => ?_) hx0 hx1 hk hk2 ?_
  · rcases List.mem_append.mp hp with hp | hp
    · exact h1 p hp
    · exact h2 p hp
  · intro h' tk' x' t' r t2 F' N' a1 a2 a3 a4
    refine h h' tk' x' t' r t2 F' (fun p hp => N' p ?_) a1 a2 a3 a4
    rw [hgr] at hp
    simp only [List.mem_cons, List.mem_append] at hp ⊢
    rcases hp with h | h | h <;> simp only [h, true_or, or_true]
/-- P holds of a function's own name, body, scope and code -/
def InFn (w : World) (f : Addr) (P : Str → List Stmt → Scope → Value → Prop) : Prop := match (hd.heap_39 w.params).lookup f with
  | some ⟨_, _, .func fd, _⟩ => (match fd.body with
    | .stmts b => P fd.qualname b fd.scope fd.code
    | _ => False)
  | _ => False
theorem inFn_of {w : World} {f : Addr} {P : Str → List Stmt → Scope → Value → Prop} {name qual : Str} {params : Arguments} {body : List Stmt} {scope : Scope} {dV kV doc pm cdv ct oc : Value} {an od : Option Addr} {osl : Array (Option Value)}
    (ho : (hd.heap_39 w.params).lookup f = some ⟨oc, od, .func (fnOf name qual params body scope dV kV doc pm an cdv ct), osl⟩) (h : P qual body scope cdv) : InFn w f P := by
  unfold InFn
  rw [ho]
  exact h
theorem of_inFn {w : World} {f : Addr} {P : Str → List Stmt → Scope → Value → Prop} {name qual : Str} {params : Arguments} {body : List Stmt} {scope : Scope} {dV kV doc pm cdv ct oc : Value} {an od : Option Addr} {osl : Array (Option Value)}
    (ho : (hd.heap_39 w.params).lookup f = some ⟨oc, od, .func (fnOf name qual params body scope dV kV doc pm an cdv ct), osl⟩) (h : InFn w f P) : P qual body scope cdv := by
  unfold InFn at h
  rw [ho] at h
  exact h
theorem cut_at : ∀ {l : List Value} {k : Nat} {y : Value}, l[k]? = some y → kl_cut l k = some (l.take k, y, l.drop (k + 1))
  | [], _, _, h => by cases h
  | x :: r, 0, y, h => by cases h; rfl
  | x :: r, k + 1, y, h => by
    unfold kl_cut
    rw [cut_at (l := r) (k := k) (by simpa using h)]
    rfl
theorem ints_take_drop {vs : List Value} {ns : List Int} (h : IntsAre vs ns) : ∀ k, IntsAre (vs.take k ++ vs.drop (k + 1)) (ns.take k ++ ns.drop (k + 1)) := by
  induction h with
  | nil => intro k; simp; exact .nil
  | cons x t hr ih =>
    intro k
    cases k with
    | zero => simpa using hr
    | succ k => simpa using IntsAre.cons x t (ih k)
/-- pop of a place that is not written -/
theorem popAt_K {prog : Program} {w : World} {A : Around} {E : Value → Shared → Prop} {s : Shared} {h₀ : Heap} {L D : Addr} {m : Str → Option Value} {n : Nat} {i : Int} {u : Tok} {ns : List Int} {us : List Value} {news : List (Addr × Obj)} {g : Obj → List (Addr × Obj)} {Q : Value → Shared → Prop}
    (F : Fr h₀ L s.heap m) (N : News h₀ L s.heap news) (U : UpdF D (W.listOf us.toArray n) news g) (hi : IntsAre us ns) (h0 : 0 ≤ i) (h1 : i < ns.length) (hl : ns.length < 1000)
    (h : ∀ us' ns' h' x t, Fr h₀ L h' m → News h₀ L h' (g (W.listOf (List.toArray us') (n + 1))) → IntsAre us' ns' → ns'.length + 1 = ns.length → Q (.int x t) { s with heap := h' }) : wpAny (model prog w) A (call (.builtin "list.pop") [.ref D, .int i u]) Q E s := by
  obtain ⟨own, rest, rfl, hgr, a1, a2⟩ := U.split
  have hv := hi.length
  obtain ⟨x, t, hx, -⟩ := ints_at hi (i := i.toNat) (by omega)
  have hU : Upd D (W.listOf us.toArray n) (W.listOf (us.take i.toNat ++ us.drop (i.toNat + 1)).toArray (n + 1)) (own ++ (D, W.listOf us.toArray n) :: rest) (own ++ (D, W.listOf (us.take i.toNat ++ us.drop (i.toNat + 1)).toArray (n + 1)) :: rest) := by
    clear N hgr U
    induction own with
    | nil => exact .head a2
    | cons p r ih => exact .tail (a1 p (.head _)) (ih fun q hq => a1 q (.tail _ hq))
  have hf : Builtin.List.listFitsIndex i = true := by
    unfold Builtin.List.listFitsIndex
    simp only [Bool.and_eq_true, decide_eq_true_eq]
    omega
  have hk : seqIndex? i us.toArray.size = some i.toNat := by
    unfold seqIndex?
    rw [List.size_toArray]
    simp only [Int.not_lt.mpr h0, if_false]
    rw [if_pos (by simp only [Bool.and_eq_true, decide_eq_true_eq]; omega)]
  refine kl_popAt F N hf hk (cut_at hx) hU (by simp only [sizeLine_eq]; omega) fun h' F' N' => ?_
  refine h _ (ns.take i.toNat ++ ns.drop (i.toNat + 1)) h' x t F' (by rw [hgr]; exact N') (ints_take_drop hi _) ?_
  rw [List.length_append, List.length_take, List.length_drop]
  omega
end Mine
end
section
open PySem PySem.W PySem.Calls PyProof.Rows
namespace Mine
local macro_rules | `(tactic| walk_at "ZZ0") => `(tactic| skip)
local macro_rules | `(tactic| walk_at "ZZ1") => `(tactic| skip)
local macro_rules | `(tactic| walk_at "ZZ2") => `(tactic| skip)
local macro_rules | `(tactic| walk_at "ZZ3") => `(tactic| skip)
local macro_rules | `(tactic| walk_at "ZZ4") => `(tactic| skip)
local macro_rules | `(tactic| walk_at "ZZ5") => `(tactic| skip)
local macro_rules | `(tactic| walk_at "ZZ6") => `(tactic| skip)
local macro_rules | `(tactic| walk_at "ZZ7") => `(tactic| skip)
local macro_rules | `(tactic| walk_at "ZZ8") => `(tactic| skip)
local macro_rules | `(tactic| walk_at "ZZ9") => `(tactic| skip)
local macro_rules | `(tactic| walk_at "ZZ10") => `(tactic| skip)
local macro_rules | `(tactic| walk_at "ZZ11") => `(tactic| skip)
local macro_rules | `(tactic| walk_at "ZZ12") => `(tactic| skip)
local macro_rules | `(tactic| walk_at "ZZ13") => `(tactic| skip)
local macro_rules | `(tactic| walk_at "ZZ14") => `(tactic| skip)
local macro_rules | `(tactic| walk_at "ZZ15") => `(tactic| skip)
local macro_rules | `(tactic| walk_at "ZZ16") => `(tactic| skip)
local macro_rules | `(tactic| walk_at "ZZ17") => `(tactic| skip)
local macro_rules | `(tactic| walk_at "ZZ18") => `(tactic| skip)
local macro_rules | `(tactic| walk_at "ZZ19") => `(tactic| skip)
local macro_rules | `(tactic| walk_at "ZZ20") => `(tactic| skip)
local macro_rules | `(tactic| walk_at "ZZ21") => `(tactic| skip)
local macro_rules | `(tactic| walk_at "ZZ22") => `(tactic| skip)
local macro_rules | `(tactic| walk_at "ZZ23") => `(tactic| skip)
local macro_rules | `(tactic| walk_at "ZZ24") => `(tactic| skip)
local macro_rules | `(tactic| walk_at "ZZ25") => `(tactic| skip)
local macro_rules | `(tactic| walk_at "ZZ26") => `(tactic| skip)
local macro_rules | `(tactic| walk_at "ZZ27") => `(tactic| skip)
local macro_rules | `(tactic| walk_at "ZZ28") => `(tactic| skip)
local macro_rules | `(tactic| walk_at "ZZ29") => `(tactic| skip)
theorem rs15 {M : Model} {A : Around} {E : Value → Shared → Prop} {s : Shared} {env : Env} {pos : Pos} {Q : Flow → Shared → Prop} (h : wpAny M A (exec (.Pass pos) env) Q E s) : wpAny M A (exec (.Pass pos) env) Q E s := by
  w_top off
  first | (walk1; fail) | exact h
end Mine
end
section
open PySem PySem.W PySem.Calls PyProof.Rows
set_option maxRecDepth 100000
set_option maxHeartbeats 4000000
set_option rowWalk.seconds 0
namespace Mine
local macro_rules | `(tactic| k_all) => `(tactic| assumption)
local macro_rules | `(tactic| walk_at "call ref") => `(tactic| (k_here; (with_reducible show wpAny _ _ (call (.ref 687) [Value.ref _, Value.int _ _]) _ _ _); k_dflt (refine' next_K ?B ?F ?X ?N ?T ?U ?x0 ?x1 ?k1 ?k2 ?_; (case B => k_asm); (case F => k_asm); (case X => k_asm); (case N => k_asm); (case T => k_asm); (case U => k_updF); (case x0 => assumption); (case x1 => assumption); (case k1 => omega); (case k2 => omega)); intro h' tk' x' t' r' t2' F' N' a1' a2' a3' a4'; (try dsimp only at N')))
local macro_rules | `(tactic| walk_at "RUNFOR") => `(tactic| repeat' (first | ((fail_if_success (with_reducible show wpAny _ _ (exec (Stmt.For _ _ _ _ _) _) _ _ _)); (fail_if_success (with_reducible show wpAny _ _ (pyIter _) _ _ _)); first | (k_unfold; (try dsimp only)) | walk1 | (dsimp only; walk1) | (leave1; try dsimp only))))
local macro_rules | `(tactic| walk_at "call builtin:list.pop") => `(tactic| (k_here; (with_reducible show wpAny _ _ (call (Value.builtin _) [Value.ref _, Value.int _ _]) _ _ _); k_dflt (refine' popAt_K ?F ?N ?U ?i ?x0 ?x1 ?l ?_; (case F => k_asm); (case N => k_asm); (case U => k_updF); (case i => assumption); (case x0 => assumption); (case x1 => assumption); (case l => omega)); intro us' ns' h' x' t' F' N' i' l'; (try dsimp only at N')))
local macro_rules | `(tactic| walk_at "RUNWH") => `(tactic| repeat' (first | ((fail_if_success (with_reducible show wpAny _ _ (exec (Stmt.While _ _ _ _) _) _ _ _)); first | (k_unfold; (try dsimp only)) | walk1 | (dsimp only; walk1) | (leave1; try dsimp only))))
theorem row_tail {w : World} : InFn w 694 fun cn body sc cd => ∀ (mean : ExcName → Option Value) (mg mb : Str → Option Value) (gd : Option (List Code)) (outer : List Env) (A₀ : Around) (base g1 : Heap) (L1 : Addr) (M : Str → Option Value) (s : Shared)
    (Q : Flow → Shared → Prop) (D b : Addr) (vs : List Value) (ns : List Int) (cD : Nat) (x : Int) (t : Tok) (c : Nat) (rest : List (Addr × Obj)),
    Below A₀ base outer g1 → Fr g1 L1 s.heap (fun y => if y = Str.ofString "row" then some (.ref D) else if y = Str.ofString "s" then some (.ref b) else M y) → (hd.heap_39 w.params).In g1 →
    News g1 L1 s.heap ((D, W.listOf (List.toArray vs) cD) :: (b, W.listOf #[Value.int x t] c) :: rest) → Top TP LS mean mg mb g1 → @LT.lt Nat _ b D → (∀ p ∈ rest, @LT.lt Nat _ p.1 b) → IntsAre vs ns → ns.length ≤ 11 → 0 ≤ x → x < 2147483647 →
    (∀ h' tk O vs' ns' c' x' t' m', Fr g1 L1 h' m' → News g1 L1 h' ((O, W.listOf (List.toArray vs') c') :: (b, W.listOf #[Value.int x' t'] c) :: rest) → b < O → IntsAre vs' ns' → ns'.length ≤ 11 → Q (.ret (.ref O)) { s with heap := h', toks := tk }) →
    wpAny (model PP w) (ktrTop 303 10 gd cn sc L1 694 cd [] outer) (execs (body.drop 8) (envX cn sc L1 694 cd [])) Q Never s := by
  refine of_mk ?_
  k_fill
  intro _
  refine inFn_of (by k_is) ?_
  intro mean mg mb gd outer A₀ base g1 L1 M s Q D b vs ns cD x t c rest B F X N T hbD hrb hi hlen hx0 hx1 h
  dsimp only [List.drop]
  walk_at "RUNWH"
  rename_i l0 h1 q1 D2 h2 q2 h3 h4 h5 F5 N5
  have N6 : News g1 L1 h5 ((l0, W.listOf (List.toArray []) 0) :: (D, W.listOf (List.toArray vs) cD) :: (b, W.listOf #[Value.int x t] c) :: rest) := fun p hp => N5 p (.tail _ hp)
  clear N5
  have hDl : @LT.lt Nat _ D l0 := q1.1
  have hrl : ∀ p ∈ rest, p.1 ≠ l0 := fun p hp => Nat.ne_of_lt (allLt_mem q1.2.2 p hp)
  have hrb' : ∀ p ∈ rest, p.1 ≠ b := fun p hp => Nat.ne_of_lt (hrb p hp)
  have hrD : ∀ p ∈ rest, p.1 ≠ D := fun p hp => Nat.ne_of_lt (Nat.lt_trans (hrb p hp) hbD)
  have hbl : @LT.lt Nat _ b l0 := Nat.lt_trans hbD hDl
  refine While_inv2 (J := fun n m nw => ∃ (vs ws : List Value) (ns ms : List Int) (cD cO : Nat) (x : Int) (t : Tok) (M : Str → Option Value),
      m = (fun y => if y = Str.ofString "left" then some (.ref D) else if y = Str.ofString "order" then some (.ref l0) else if y = Str.ofString "s" then some (.ref b) else M y) ∧
      nw = (l0, W.listOf (List.toArray ws) cO) :: (D, W.listOf (List.toArray vs) cD) :: (b, W.listOf #[Value.int x t] c) :: rest ∧ IntsAre vs ns ∧ IntsAre ws ms ∧ ns.length + ms.length ≤ 11 ∧ 0 ≤ x ∧ x < 2147483647 ∧ n = ns.length) (n₀ := ns.length) F5 N6 ?_ ?_
  · refine ⟨vs, [], ns, [], cD, 0, x, t, fun y => if y = Str.ofString "row" then some (.ref D) else M y, ?_, rfl, hi, .nil, by simpa using hlen, hx0, hx1, rfl⟩
    funext y
    dsimp only
    split
    · rfl
    split
    · rfl
    by_cases e1 : y = Str.ofString "s"
    · rw [if_neg (by rw [e1]; decide), if_pos e1]; simp [e1]
    · by_cases e2 : y = Str.ofString "row"
      · subst e2; rfl
      · simp [e1, e2]
  rintro n m₁ nw h6 tk6 F6 N6 ⟨vs6, ws6, ns6, ms6, cD6, cO6, x6, t6, M6, rfl, rfl, i6, j6, l6, p6, p7, rfl⟩
  clear F5
  have hv6 := i6.length
  have hw6 := j6.length
  k_steps
  · rename_i q0 h7 tk7 x7 t7 r7 tr7 y1 y2 y3 y4 us' ns' h8 x8 t8 i' l' h9 F9 N9
    rw [List.push_toArray] at N9
    exact ⟨_, _, _, _, ns'.length, rfl, F9, N9, by omega, us', ws6 ++ [.int x8 t8], ns', ms6 ++ [x8], _, _, x7, t7, M6, rfl, rfl, i', j6.append (.cons x8 t8 .nil), by rw [List.length_append, List.length_singleton]; omega, y1, y2, rfl⟩
  · exact h _ _ _ _ _ _ _ _ _ ‹_› (fun p hp => ‹News g1 L1 h6 _› p (by
      rcases List.mem_cons.mp hp with rfl | hp
      · exact .head _
      · exact .tail _ (.tail _ hp))) hbl j6 (by omega)
theorem fr_pick2r {g h : Heap} {L : Addr} {m : Str → Option Value} {x x2 : Str} {v v2 : Value} (F : Fr g L h m) (e : m x = some v) (e2 : m x2 = some v2) : ∃ M : Str → Option Value, Fr g L h (fun y => if y = x then some v else if y = x2 then some v2 else M y) := by
  refine ⟨m, ?_⟩
  have : (fun y => if y = x then some v else if y = x2 then some v2 else m y) = m := by
    funext y
    by_cases h1 : y = x
    · rw [if_pos h1, h1, e]
    · rw [if_neg h1]
      by_cases h2 : y = x2
      · rw [if_pos h2, h2, e2]
      · rw [if_neg h2]
  rw [this]
  exact F
theorem row_tail2 {w : World} : InFn w 694 fun cn body sc cd => ∀ (mean : ExcName → Option Value) (mg mb : Str → Option Value) (gd : Option (List Code)) (outer : List Env) (A₀ : Around) (base g1 : Heap) (L1 : Addr) (m : Str → Option Value) (s : Shared)
    (Q : Flow → Shared → Prop) (E : Value → Shared → Prop) (D b : Addr) (vs : List Value) (ns : List Int) (cD : Nat) (x : Int) (t : Tok) (c : Nat) (rest led : List (Addr × Obj)),
    Below A₀ base outer g1 → Fr g1 L1 s.heap m → (hd.heap_39 w.params).In g1 → News g1 L1 s.heap led → Top TP LS mean mg mb g1 → m (Str.ofString "row") = some (.ref D) → m (Str.ofString "s") = some (.ref b) →
    (∀ p ∈ (D, W.listOf (List.toArray vs) cD) :: (b, W.listOf #[Value.int x t] c) :: rest, p ∈ led) → @LT.lt Nat _ b D → (∀ p ∈ rest, @LT.lt Nat _ p.1 b) → IntsAre vs ns → ns.length ≤ 11 → 0 ≤ x → x < 2147483647 →
    (∀ h' tk O vs' ns' c' x' t' m', Fr g1 L1 h' m' → News g1 L1 h' ((O, W.listOf (List.toArray vs') c') :: (b, W.listOf #[Value.int x' t'] c) :: rest) → @LT.lt Nat _ b O → IntsAre vs' ns' → ns'.length ≤ 11 → Q (.ret (.ref O)) { s with heap := h', toks := tk }) →
    wpAny (model PP w) (ktrTop 303 10 gd cn sc L1 694 cd [] outer) (execs (body.drop 8) (envX cn sc L1 694 cd [])) Q E s := by
  refine of_mk ?_
  k_fill
  intro _
  refine inFn_of (by k_is) ?_
  intro mean mg mb gd outer A₀ base g1 L1 m s Q E D b vs ns cD x t c rest led B F X N T e1 e2 hsub hbD hrb hi hlen hx0 hx1 h
  obtain ⟨M, F2⟩ := fr_pick2r F e1 e2
  refine wpAny_mono (of_inFn (w := w) (f := 694) (by k_is) row_tail mean mg mb gd outer A₀ base g1 L1 M s Q D b vs ns cD x t c rest B F2 X (fun p hp => N p (hsub p hp)) T hbD hrb hi hlen hx0 hx1 h) (fun _ _ q => q) fun _ _ e => e.elim
end Mine
end
section
open PySem PySem.W PySem.Calls PyProof.Rows
namespace Mine
local macro_rules | `(tactic| walk_at "ZZ0") => `(tactic| skip)
local macro_rules | `(tactic| walk_at "ZZ1") => `(tactic| skip)
local macro_rules | `(tactic| walk_at "ZZ2") => `(tactic| skip)
local macro_rules | `(tactic| walk_at "ZZ3") => `(tactic| skip)
local macro_rules | `(tactic| walk_at "ZZ4") => `(tactic| skip)
local macro_rules | `(tactic| walk_at "ZZ5") => `(tactic| skip)
local macro_rules | `(tactic| walk_at "ZZ6") => `(tactic| skip)
local macro_rules | `(tactic| walk_at "ZZ7") => `(tactic| skip)
local macro_rules | `(tactic| walk_at "ZZ8") => `(tactic| skip)
local macro_rules | `(tactic| walk_at "ZZ9") => `(tactic| skip)
local macro_rules | `(tactic| walk_at "ZZ10") => `(tactic| skip)
local macro_rules | `(tactic| walk_at "ZZ11") => `(tactic| skip)
local macro_rules | `(tactic| walk_at "ZZ12") => `(tactic| skip)
local macro_rules | `(tactic| walk_at "ZZ13") => `(tactic| skip)
local macro_rules | `(tactic| walk_at "ZZ14") => `(tactic| skip)
local macro_rules | `(tactic| walk_at "ZZ15") => `(tactic| skip)
local macro_rules | `(tactic| walk_at "ZZ16") => `(tactic| skip)
local macro_rules | `(tactic| walk_at "ZZ17") => `(tactic| skip)
local macro_rules | `(tactic| walk_at "ZZ18") => `(tactic| skip)
local macro_rules | `(tactic| walk_at "ZZ19") => `(tactic| skip)
local macro_rules | `(tactic| walk_at "ZZ20") => `(tactic| skip)
local macro_rules | `(tactic| walk_at "ZZ21") => `(tactic| skip)
local macro_rules | `(tactic| walk_at "ZZ22") => `(tactic| skip)
local macro_rules | `(tactic| walk_at "ZZ23") => `(tactic| skip)
local macro_rules | `(tactic| walk_at "ZZ24") => `(tactic| skip)
local macro_rules | `(tactic| walk_at "ZZ25") => `(tactic| skip)
local macro_rules | `(tactic| walk_at "ZZ26") => `(tactic| skip)
local macro_rules | `(tactic| walk_at "ZZ27") => `(tactic| skip)
local macro_rules | `(tactic| walk_at "ZZ28") => `(tactic| skip)
local macro_rules | `(tactic| walk_at "ZZ29") => `(tactic| skip)
theorem rs16 {M : Model} {A : Around} {E : Value → Shared → Prop} {s : Shared} {env : Env} {pos : Pos} {Q : Flow → Shared → Prop} (h : wpAny M A (exec (.Pass pos) env) Q E s) : wpAny M A (exec (.Pass pos) env) Q E s := by
  w_top off
  first | (walk1; fail) | exact h
end Mine
end
section
open PySem PySem.W PySem.Calls PyProof.Rows
set_option maxRecDepth 100000
set_option maxHeartbeats 4000000
set_option rowWalk.seconds 0
namespace Mine
local macro_rules | `(tactic| k_all) => `(tactic| assumption)
local macro_rules | `(tactic| walk_at "call ref") => `(tactic| (k_here; (with_reducible show wpAny _ _ (call (.ref 687) [Value.ref _, Value.int _ _]) _ _ _); k_dflt (refine' next_K ?B ?F ?X ?N ?T ?U ?x0 ?x1 ?k1 ?k2 ?_; (case B => k_asm); (case F => k_asm); (case X => k_asm); (case N => k_asm); (case T => k_asm); (case U => k_updF); (case x0 => assumption); (case x1 => assumption); (case k1 => omega); (case k2 => omega)); intro h' tk' x' t' r' t2' F' N' a1' a2' a3' a4'; (try dsimp only at N')))
local macro_rules | `(tactic| walk_at "call builtin:list.pop") => `(tactic| (k_here; (with_reducible show wpAny _ _ (call (Value.builtin _) [Value.ref _, Value.int _ _]) _ _ _); k_dflt (refine' popAt_K ?F ?N ?U ?i ?x0 ?x1 ?l ?_; (case F => k_asm); (case N => k_asm); (case U => k_updF); (case i => assumption); (case x0 => assumption); (case x1 => omega); (case l => omega)); intro us' ns' h' x' t' F' N' i' l'; (try dsimp only at N')))
local macro_rules | `(tactic| walk_at "RUNIF") => `(tactic| repeat' (first | ((fail_if_success (with_reducible show wpAny _ _ (exec (Stmt.If _ _ _ _) _) _ _ _)); first | (k_unfold; (try dsimp only)) | walk1 | (dsimp only; walk1) | (leave1; try dsimp only))))
local macro_rules | `(tactic| walk_at "RUNEND") => `(tactic| repeat' (first | ((fail_if_success (with_reducible show wpAny _ _ (execs [Stmt.Assign [Expr.Tuple _ _ _] _ _, Stmt.While _ _ _ _, Stmt.Return _ _] _) _ _ _)); first | (k_unfold; (try dsimp only)) | walk1 | (dsimp only; walk1) | (leave1; try dsimp only))))
local macro_rules | `(tactic| walk_at "RUNFOR") => `(tactic| repeat' (first | ((fail_if_success (with_reducible show wpAny _ _ (exec (Stmt.For _ _ _ _ _) _) _ _ _)); (fail_if_success (with_reducible show wpAny _ _ (pyIter _) _ _ _)); first | (k_unfold; (try dsimp only)) | walk1 | (dsimp only; walk1) | (leave1; try dsimp only))))
theorem row_spec {w : World} {mean : ExcName → Option Value} {mg mb : Str → Option Value} {gd : Option (List Code)} {cn : Str} {nms : List (Str × NameKind)} {sg sc : Bool} {mo : List (Str × Const)} {a : Addr} {ccd : Value} {cl : List (Str × Addr)} {outer : List Env} {A₀ : Around} {base h₀ : Heap} {L : Addr} {m : Str → Option Value} {rest : List (Addr × Obj)} {s : Shared}
    {Q E : Value → Shared → Prop} {b : Addr} {x : Int} {t : Tok} {c : Nat}
    (B : Below A₀ base outer h₀) (F : Fr h₀ L s.heap m) (X : (hd.heap_39 w.params).In h₀) (N : News h₀ L s.heap ((b, listOf #[.int x t] c) :: rest)) (T : Top TP LS mean mg mb h₀) (hoff : ∀ p ∈ rest, p.1 < b) (hx0 : 0 ≤ x) (hx1 : x < 2147483647)
    (h : ∀ h' tk r vs ns c' x' t', Fr h₀ L h' m → News h₀ L h' ((r, listOf (List.toArray vs) c') :: (b, listOf #[.int x' t'] c) :: rest) → b < r → IntsAre vs ns → ns.length ≤ 11 → Q (.ref r) { s with heap := h', toks := tk }) :
    wpAny (model PP w) (ktrTop 302 7 gd cn { kind := .function, names := nms, isGenerator := sg, isCoroutine := sc, more := mo } L a ccd cl outer) (call (.ref 694) [.ref b]) Q E s := by
  refine of_mk ?_
  k_fill
  intro _
  walk_at "RUNFOR"
  rename_i g1 L1 h1 FG1 B1 X1 T1 tk1 h2 tk2 x2 t2 r2 tr2 p1 p2 p3 p4 h3 tk3 l0 h4 q1 D h5 i1 n1 s1 e1 e2 e3 q2 h6 F6 N6
  obtain ⟨M, F7⟩ := fr_pick3 F6 (x := Str.ofString "row") (x2 := Str.ofString "many") (x3 := Str.ofString "s") (v2 := .int (1 + r2) tk2) rfl rfl rfl
  have N7 : News g1 L1 h6 ((D, W.listOf (List.toArray (List.replicate (1 + r2).toNat [Value.int 0 tk3]).flatten) 0) :: (b, W.listOf #[Value.int x2 t2] c) :: rest) := News.sub6 N6 fun p hp => by
    rcases List.mem_cons.mp hp with rfl | hp
    · exact .head _
    · exact .tail _ (.tail _ hp)
  clear F6 N6 e2
  have hmany : (List.replicate (1 + r2).toNat [(0 : Int)]).flatten.length = (1 + r2).toNat := by
    have := e3 (by omega)
    omega
  generalize (List.replicate (1 + r2).toNat [(0 : Int)]).flatten = ns7 at i1 e1 hmany
  generalize (List.replicate (1 + r2).toNat [Value.int 0 tk3]).flatten = vs7 at i1 s1 N7
  clear e1 e3 s1
  refine For_R g1 rfl rfl rfl ?_
  walk_at "RUNFOR"
  rename_i F7' N7' h8 tk8 tr8 ur8 vr8 hR8 F8 N8 hk8
  refine iter_R F8 N8 hR8 (by omega) (by omega) (by omega) (by omega) ?_
  intro I hI hst hLI hI0 hnI hIn hkI FI NI
  have eN : (1 + r2 - 1).toNat = r2.toNat := by omega
  rw [eN] at hst
  obtain ⟨J, hJ⟩ : ∃ J : Nat → (Str → Option Value) → List (Addr × Obj) → Array GenState → Prop, J = fun _ m nw gs => ∃ (ns : List Int) (vs : List Value) (cD : Nat) (x : Int) (t : Tok) (M : Str → Option Value),
      m = (fun y => if y = Str.ofString "row" then some (.ref D) else if y = Str.ofString "many" then some (.int (1 + r2) tk2) else if y = Str.ofString "s" then some (.ref b) else M y) ∧
      nw = (D, W.listOf (List.toArray vs) cD) :: (b, W.listOf #[Value.int x t] c) :: rest ∧ IntsAre vs ns ∧ ns.length = (1 + r2).toNat ∧ 0 ≤ x ∧ x < 2147483647 ∧ gs = s.gens := ⟨_, rfl⟩
  refine ⟨I, 1, r2.toNat, _, _, J, rfl, hst, hLI, hI0, hnI, FI, NI, ?_, ?_, ?_⟩
  · subst hJ
    exact ⟨ns7, vs7, _, x2, t2, M, rfl, rfl, i1, hmany, p1, p2, rfl⟩
  · subst hJ
    clear FI NI F7' N7' F8 N8 hk8 hkI hst hIn
    intro i t m₁ news₁ s₂ oI hi hJ hnw2 F6 N6
    obtain ⟨ns9, vs9, cD9, x9, t9, M9, rfl, rfl, i9, l9, p9, p10, hg9⟩ := hJ
    have hbI : b ≠ I := hnw2 (b, W.listOf #[Value.int x9 t9] c) (by simp)
    have hDI : D ≠ I := hnw2 (D, W.listOf (List.toArray vs9) cD9) (.head _)
    have hIb : I ≠ b := Ne.symm hbI
    have hID : I ≠ D := Ne.symm hDI
    have hbD : b ≠ D := Nat.ne_of_lt q2.2.1
    have hDb : D ≠ b := Ne.symm hbD
    have hrb : ∀ p ∈ rest, p.1 ≠ b := fun p hp => Nat.ne_of_lt (hoff p hp)
    have hrD : ∀ p ∈ rest, p.1 ≠ D := fun p hp => Nat.ne_of_lt (allLt_mem q2.2.2 p hp)
    have hv9 := i9.length
    k_steps
    rename_i h6 F9 N9 hi9 hl9 hs9
    obtain ⟨M2, F10⟩ := fr_pick3 F9 (x := Str.ofString "row") (x2 := Str.ofString "many") (x3 := Str.ofString "s") (v2 := .int (1 + r2) tk2) rfl rfl rfl
    refine ⟨rfl, rfl, rfl, _, (D, _) :: (b, _) :: rest, F10, fun p hp => N9 p (.tail _ hp), fun p hp => ?_, _, _, _, _, _, M2, rfl, rfl, hi9, ?_, by assumption, by assumption, hg9⟩
    · rcases List.mem_cons.mp hp with rfl | hp
      · exact hDI
      rcases List.mem_cons.mp hp with rfl | hp
      · exact hbI
      · exact hnI p (.tail _ (.tail _ hp))
    · rw [hl9]
      exact Eq.trans (by assumption) l9
  · subst hJ
    intro s5 m5 news5 hd5 ho5 F5 N5 hn5 hJ5
    obtain ⟨ns9, vs9, cD9, x9, t9, M9, rfl, rfl, i9, l9, p9, p10, hg9⟩ := hJ5
    obtain ⟨h5, gens5, drawn5, toks5, os5⟩ := s5
    dsimp only at hd5 ho5 hg9
    subst hd5 ho5 hg9
    clear FI NI F7' N7' F8 N8 hk8 hkI hst hIn hR8
    have hbD : b ≠ D := Nat.ne_of_lt q2.2.1
    have hDb : D ≠ b := Ne.symm hbD
    have hrb : ∀ p ∈ rest, p.1 ≠ b := fun p hp => Nat.ne_of_lt (hoff p hp)
    have hrD : ∀ p ∈ rest, p.1 ≠ D := fun p hp => Nat.ne_of_lt (allLt_mem q2.2.2 p hp)
    have hv9 := i9.length
    dsimp only
    walk_at "RUNIF"
    rename_i h6 tk6 x6 t6 r6 tr6 y1 y2 y3 y4 h7 F7 N7
    obtain rfl | rfl | rfl | rfl | rfl | rfl : r6 = 0 ∨ r6 = 1 ∨ r6 = 2 ∨ r6 = 3 ∨ r6 = 4 ∨ r6 = 5 := by omega
    all_goals walk_at "RUNEND"
    · rename_i xx tt rr tr a1 a2 a3 a4 hh F8 N8 hi' hl' hs' u1 u2 u3
      refine' of_inFn (w := w) (f := 694) (by k_is) row_tail2 mean mg mb _ _ _ base g1 L1 _ _ _ _ D b _ _ (cD9) xx tt c rest _ B1 ?F X1 ?N T1 ?e1 ?e2 ?S (Nat.lt_trans q1.1 q2.1) hoff hi' ?hl a1 a2 fun h' tk O vs' ns' c' x' t' m' F' N' l' i' n' => ?_
      case F => exact F8
      case N => exact N8
      case e1 => rfl
      case e2 => rfl
      case S => exact fun p hp => hp
      case hl => rw [hl']; omega
      k_steps
      exact h _ _ _ _ _ _ _ _ (by assumption) (by assumption) l' i' n'
    · rename_i hh1 tk7 xx tt rr tr F7' N7' a1 a2 a3 a4 us8 ns8 hh x8 t8 F8 N8 i8 l8 u1 u2
      refine' of_inFn (w := w) (f := 694) (by k_is) row_tail2 mean mg mb _ _ _ base g1 L1 _ _ _ _ D b _ _ (cD9 + 1) xx tt c rest _ B1 ?F X1 ?N T1 ?e1 ?e2 ?S (Nat.lt_trans q1.1 q2.1) hoff i8 ?hl a1 a2 fun h' tk O vs' ns' c' x' t' m' F' N' l' i' n' => ?_
      case F => exact F8
      case N => exact N8
      case e1 => rfl
      case e2 => rfl
      case S => exact fun p hp => hp
      case hl => omega
      k_steps
      exact h _ _ _ _ _ _ _ _ (by assumption) (by assumption) l' i' n'
    · rename_i hh1 tk7 xx tt rr tr a1 a2 a3 a4 hh F8 N8 u1
      rw [List.push_toArray] at N8
      refine' of_inFn (w := w) (f := 694) (by k_is) row_tail2 mean mg mb _ _ _ base g1 L1 _ _ _ _ D b _ _ (cD9 + 1) xx tt c rest _ B1 ?F X1 ?N T1 ?e1 ?e2 ?S (Nat.lt_trans q1.1 q2.1) hoff (i9.append (.cons rr tr .nil)) ?hl a1 a2 fun h' tk O vs' ns' c' x' t' m' F' N' l' i' n' => ?_
      case F => exact F8
      case N => exact N8
      case e1 => rfl
      case e2 => rfl
      case S => exact fun p hp => hp
      case hl => rw [List.length_append, List.length_singleton]; omega
      k_steps
      exact h _ _ _ _ _ _ _ _ (by assumption) (by assumption) l' i' n'
    · rename_i xx tt rr tr a1 a2 a3 a4 D7 h7a q7 hA1 hA2 hA tkA tA tB D8 h8 q8 hB hC i8 l8 s8 hh F8 N8 hi' hl' hs'
      refine' of_inFn (w := w) (f := 694) (by k_is) row_tail2 mean mg mb _ _ _ base g1 L1 _ _ _ _ D b _ _ (cD9) xx tt c rest _ B1 ?F X1 ?N T1 ?e1 ?e2 ?S (Nat.lt_trans q1.1 q2.1) hoff hi' ?hl a1 a2 fun h' tk O vs' ns' c' x' t' m' F' N' l' i' n' => ?_
      case F => exact F8
      case N => exact N8
      case e1 => rfl
      case e2 => rfl
      case S => exact fun p hp => .tail _ (.tail _ hp)
      case hl => rw [hl', l8]; omega
      k_steps
      exact h _ _ _ _ _ _ _ _ (by assumption) (by assumption) l' i' n'
    · rename_i u9
      refine' of_inFn (w := w) (f := 694) (by k_is) row_tail2 mean mg mb _ _ _ base g1 L1 _ _ _ _ D b _ _ (cD9) x6 t6 c rest _ B1 ?F X1 ?N T1 ?e1 ?e2 ?S (Nat.lt_trans q1.1 q2.1) hoff i9 ?hl y1 y2 fun h' tk O vs' ns' c' x' t' m' F' N' l' i' n' => ?_
      case F => exact F7
      case N => exact N7
      case e1 => rfl
      case e2 => rfl
      case S => exact fun p hp => hp
      case hl => omega
      k_steps
      exact h _ _ _ _ _ _ _ _ (by assumption) (by assumption) l' i' n'
    · rename_i u9
      refine' of_inFn (w := w) (f := 694) (by k_is) row_tail2 mean mg mb _ _ _ base g1 L1 _ _ _ _ D b _ _ (cD9) x6 t6 c rest _ B1 ?F X1 ?N T1 ?e1 ?e2 ?S (Nat.lt_trans q1.1 q2.1) hoff i9 ?hl y1 y2 fun h' tk O vs' ns' c' x' t' m' F' N' l' i' n' => ?_
      case F => exact F7
      case N => exact N7
      case e1 => rfl
      case e2 => rfl
      case S => exact fun p hp => hp
      case hl => omega
      k_steps
      exact h _ _ _ _ _ _ _ _ (by assumption) (by assumption) l' i' n'
    · rename_i u9
      refine' of_inFn (w := w) (f := 694) (by k_is) row_tail2 mean mg mb _ _ _ base g1 L1 _ _ _ _ D b _ _ (cD9) x6 t6 c rest _ B1 ?F X1 ?N T1 ?e1 ?e2 ?S (Nat.lt_trans q1.1 q2.1) hoff i9 ?hl y1 y2 fun h' tk O vs' ns' c' x' t' m' F' N' l' i' n' => ?_
      case F => exact F7
      case N => exact N7
      case e1 => rfl
      case e2 => rfl
      case S => exact fun p hp => hp
      case hl => omega
      k_steps
      exact h _ _ _ _ _ _ _ _ (by assumption) (by assumption) l' i' n'
end Mine
end
section
open PySem PySem.W PySem.Calls PyProof.Rows
set_option maxRecDepth 100000
set_option maxHeartbeats 2000000
set_option rowWalk.seconds 0
namespace Mine
/-- P holds of the law's own name, body, scope and code -/
def InLaw (w : World) (P : Str → List Stmt → Scope → Value → Prop) : Prop := match (hd.heap_39 w.params).lookup 699 with
  | some ⟨_, _, .func fd, _⟩ => (match fd.body with
    | .stmts b => P fd.qualname b fd.scope fd.code
    | _ => False)
  | _ => False
theorem inLaw_of {w : World} {P : Str → List Stmt → Scope → Value → Prop} {name qual : Str} {params : Arguments} {body : List Stmt} {scope : Scope} {dV kV doc pm cdv ct oc : Value} {an od : Option Addr} {osl : Array (Option Value)}
    (ho : (hd.heap_39 w.params).lookup 699 = some ⟨oc, od, .func (fnOf name qual params body scope dV kV doc pm an cdv ct), osl⟩) (h : P qual body scope cdv) : InLaw w P := by
  unfold InLaw
  rw [ho]
  exact h
theorem of_inLaw {w : World} {P : Str → List Stmt → Scope → Value → Prop} {name qual : Str} {params : Arguments} {body : List Stmt} {scope : Scope} {dV kV doc pm cdv ct oc : Value} {an od : Option Addr} {osl : Array (Option Value)}
    (ho : (hd.heap_39 w.params).lookup 699 = some ⟨oc, od, .func (fnOf name qual params body scope dV kV doc pm an cdv ct), osl⟩) (h : InLaw w P) : P qual body scope cdv := by
  unfold InLaw at h
  rw [ho] at h
  exact h
end Mine
end
section
open PySem PySem.W PySem.Calls PyProof.Rows
namespace Mine
local macro_rules | `(tactic| walk_at "ZZ0") => `(tactic| skip)
local macro_rules | `(tactic| walk_at "ZZ1") => `(tactic| skip)
local macro_rules | `(tactic| walk_at "ZZ2") => `(tactic| skip)
local macro_rules | `(tactic| walk_at "ZZ3") => `(tactic| skip)
local macro_rules | `(tactic| walk_at "ZZ4") => `(tactic| skip)
local macro_rules | `(tactic| walk_at "ZZ5") => `(tactic| skip)
local macro_rules | `(tactic| walk_at "ZZ6") => `(tactic| skip)
local macro_rules | `(tactic| walk_at "ZZ7") => `(tactic| skip)
local macro_rules | `(tactic| walk_at "ZZ8") => `(tactic| skip)
local macro_rules | `(tactic| walk_at "ZZ9") => `(tactic| skip)
local macro_rules | `(tactic| walk_at "ZZ10") => `(tactic| skip)
local macro_rules | `(tactic| walk_at "ZZ11") => `(tactic| skip)
local macro_rules | `(tactic| walk_at "ZZ12") => `(tactic| skip)
local macro_rules | `(tactic| walk_at "ZZ13") => `(tactic| skip)
local macro_rules | `(tactic| walk_at "ZZ14") => `(tactic| skip)
local macro_rules | `(tactic| walk_at "ZZ15") => `(tactic| skip)
local macro_rules | `(tactic| walk_at "ZZ16") => `(tactic| skip)
local macro_rules | `(tactic| walk_at "ZZ17") => `(tactic| skip)
local macro_rules | `(tactic| walk_at "ZZ18") => `(tactic| skip)
local macro_rules | `(tactic| walk_at "ZZ19") => `(tactic| skip)
local macro_rules | `(tactic| walk_at "ZZ20") => `(tactic| skip)
local macro_rules | `(tactic| walk_at "ZZ21") => `(tactic| skip)
local macro_rules | `(tactic| walk_at "ZZ22") => `(tactic| skip)
local macro_rules | `(tactic| walk_at "ZZ23") => `(tactic| skip)
local macro_rules | `(tactic| walk_at "ZZ24") => `(tactic| skip)
local macro_rules | `(tactic| walk_at "ZZ25") => `(tactic| skip)
local macro_rules | `(tactic| walk_at "ZZ26") => `(tactic| skip)
local macro_rules | `(tactic| walk_at "ZZ27") => `(tactic| skip)
local macro_rules | `(tactic| walk_at "ZZ28") => `(tactic| skip)
local macro_rules | `(tactic| walk_at "ZZ29") => `(tactic| skip)
theorem rs17 {M : Model} {A : Around} {E : Value → Shared → Prop} {s : Shared} {env : Env} {pos : Pos} {Q : Flow → Shared → Prop} (h : wpAny M A (exec (.Pass pos) env) Q E s) : wpAny M A (exec (.Pass pos) env) Q E s := by
  w_top off
  first | (walk1; fail) | exact h
end Mine
end
section
open PySem PySem.W PySem.Calls PyProof.Rows
set_option maxRecDepth 100000
set_option maxHeartbeats 4000000
set_option rowWalk.seconds 0
namespace Mine
local macro_rules | `(tactic| k_all) => `(tactic| assumption)
local macro_rules | `(tactic| walk_at "execs nil") => `(tactic| (k_here; refine wpAny_execs_nil ?_))
local macro_rules | `(tactic| walk_at "call ref") => `(tactic| (k_here; (with_reducible show wpAny _ _ (call (.ref 680) [Value.ref _]) _ _ _); k_dflt (refine' seed_spec ?B ?F ?X ?N ?T ?l ?i ?n ?_; (case B => k_asm); (case F => k_asm); (case X => k_asm); (case N => k_asm); (case T => k_asm); (case l => assumption); (case i => assumption); (case n => assumption)); intro h' tk' b' x' t' c' F' N' l1' a1' a2'; (try dsimp only at N')))
local macro_rules | `(tactic| walk_at "call ref") => `(tactic| (k_here; (with_reducible show wpAny _ _ (call (.ref 694) [Value.ref _]) _ _ _); k_dflt (refine' row_spec ?B ?F ?X ?N ?T ?o ?x0 ?x1 ?_; (case B => k_asm); (case F => k_asm); (case X => k_asm); (case N => k_asm); (case T => k_asm); (case o => assumption); (case x0 => assumption); (case x1 => assumption)); intro h' tk' r' vs' ns' c' x' t' F' N' l1' i' n'; (try dsimp only at N')))
theorem valid_sum {ns : List Int} : Valid ns ↔ (0 < ns.length ∧ ns.sum = 2 * (ns.length : Int) - 2 ∧ (ns = [0] ∨ ∀ x ∈ ns, 1 ≤ x)) := by
  constructor
  · rintro ⟨v1, v2, v3⟩
    have hp := valid_pos v1
    have hs : ns.sum = 2 * (ns.length : Int) - 2 := by
      have h1 := Int.mul_fdiv_add_fmod ns.sum 2
      omega
    refine ⟨hp, hs, ?_⟩
    rcases v3 with v3 | v3
    · match ns, v3 with
      | [x], _ =>
        have : x = 0 := by simpa using hs
        exact .inl (by rw [this])
    · exact .inr v3
  · rintro ⟨hp, hs, hv⟩
    refine ⟨?_, ?_, ?_⟩
    · rw [hs, Int.fdiv_eq_ediv_of_nonneg _ (by decide)]; omega
    · rw [hs, Int.fmod_eq_emod_of_nonneg _ (by decide)]; omega
    · rcases hv with hv | hv
      · exact .inl (by rw [hv]; rfl)
      · exact .inr hv
theorem good1 {ns : List Int} (h1 : ns.sum = 2 * (ns.length : Int) - 2) (h : ns = [0]) : decide (ns = [0]) = true ↔ Valid ns := by
  rw [valid_sum]
  simp only [h, decide_true, true_iff]
  decide
theorem good2 {ns : List Int} {m : Int} (h0 : 0 < (ns.length : Int)) (h1 : ns.sum = 2 * (ns.length : Int) - 2) (h : ¬ ns = [0]) (hm : m ∈ ns) (hl : ∀ a ∈ ns, m ≤ a) : decide (1 ≤ m) = true ↔ Valid ns := by
  rw [valid_sum, decide_eq_true_eq]
  constructor
  · exact fun q => ⟨by omega, h1, .inr fun x hx => by have := hl x hx; omega⟩
  · rintro ⟨_, _, q | q⟩
    · exact absurd q h
    · exact q m hm
theorem good3 {ns : List Int} (h1 : ns.sum ≠ 2 * (ns.length : Int) - 2) : (ns.sum == 2 * (ns.length : Int) - 2) = true ↔ Valid ns := by
  rw [valid_sum, beq_iff_eq]
  exact ⟨fun q => absurd q h1, fun q => absurd q.2.1 h1⟩
theorem good4 {ns : List Int} (h0 : ¬ 0 < (ns.length : Int)) : decide (0 < (ns.length : Int)) = true ↔ Valid ns := by
  rw [valid_sum, decide_eq_true_eq]
  exact ⟨fun q => absurd q h0, fun q => absurd q.1 (by omega)⟩
theorem stageA {w : World} : InLaw w fun cn body sc cd => ∀ (mean : ExcName → Option Value) (mg mb : Str → Option Value) (gd : Option (List Code)) (outer : List Env) (A₀ : Around) (base h₀ : Heap) (L : Addr) (M : Str → Option Value) (s : Shared)
    (Q : Flow → Shared → Prop) (l : Addr) (vs : List Value) (ns : List Int) (R : List (Addr × Obj)),
    Below A₀ base outer h₀ → Fr h₀ L s.heap (fun y => if y = Str.ofString "script" then some (.ref l) else M y) → (hd.heap_39 w.params).In h₀ → News h₀ L s.heap R → Top TP LS mean mg mb h₀ →
    base.IsList l vs.toArray → IntsAre vs ns → ns.length ≤ 63 →
    (∀ h' tk r kp vs' ws' ns' c c' b m', Fr h₀ L h' m' → m' (Str.ofString "row") = some (.ref r) → m' (Str.ofString "kept") = some (.ref kp) → m' (Str.ofString "good") = some (.bool b) →
      News h₀ L h' ((kp, W.listOf (List.toArray ws') c') :: (r, W.listOf (List.toArray vs') c) :: R) → @LT.lt Nat _ r kp → (∀ p ∈ R, @LT.lt Nat _ p.1 r) → IntsAre vs' ns' → IntsAre ws' ns' → ns'.length ≤ 11 → (b = true ↔ Valid ns') → Q .next { s with heap := h', toks := tk }) →
    wpAny (model PP w) (ktrTop 302 7 gd cn sc L 699 cd (cellsFrom (L + 1) sc.names []) outer) (execs (body.take 4) (envX cn sc L 699 cd (cellsFrom (L + 1) sc.names []))) Q Never s := by
  refine of_mk ?_
  k_fill
  intro _
  refine inLaw_of (by k_is) ?_
  intro mean mg mb gd outer A₀ base h₀ L M s Q l vs ns R B F X N T hl hi hlen h
  dsimp only [List.take]
  k_steps
  · rename_i b1 x1 t1 c1 q1 y1 y2 h1 tk1 h2 tk2 r1 vs1 ns1 c2 x2 t2 q2 i1 n1 h3 tk3 D1 c3 h4 q3 h5 g1 h6 tk6 t6 g2 l1 h7 q4 g3 h8 F8 N8
    exact h _ _ r1 D1 vs1 vs1 ns1 c2 c3 _ _ F8 rfl rfl rfl (fun p hp => N8 p (by
        simp only [List.mem_cons] at hp ⊢
        rcases hp with h | h | h <;> simp only [h, true_or, or_true])) q3.1 (fun p hp => Nat.lt_trans (q1 p hp) q2) i1 i1 n1 (good1 g2 g3)
  · rename_i b1 x1 t1 c1 q1 y1 y2 h1 tk1 h2 tk2 r1 vs1 ns1 c2 x2 t2 q2 i1 n1 h3 tk3 D1 c3 h4 q3 h5 g1 h6 tk6 t6 g2 l1 h7 q4 g3 h8 m1 tm k1 w1 w2 h9 F8 N8
    exact h _ _ r1 D1 vs1 vs1 ns1 c2 c3 _ _ F8 rfl rfl rfl (fun p hp => N8 p (by
        simp only [List.mem_cons] at hp ⊢
        rcases hp with h | h | h <;> simp only [h, true_or, or_true])) q3.1 (fun p hp => Nat.lt_trans (q1 p hp) q2) i1 i1 n1 (good2 g1 g2 g3 w1 w2)
  · rename_i b1 x1 t1 c1 q1 y1 y2 h1 tk1 h2 tk2 r1 vs1 ns1 c2 x2 t2 q2 i1 n1 h3 tk3 D1 c3 h4 q3 h5 g1 h6 tk6 t6 g2 h8 F8 N8
    exact h _ _ r1 D1 vs1 vs1 ns1 c2 c3 _ _ F8 rfl rfl rfl (fun p hp => N8 p (by
        simp only [List.mem_cons] at hp ⊢
        rcases hp with h | h | h <;> simp only [h, true_or, or_true])) q3.1 (fun p hp => Nat.lt_trans (q1 p hp) q2) i1 i1 n1 (good3 g2)
  · rename_i b1 x1 t1 c1 q1 y1 y2 h1 tk1 h2 tk2 r1 vs1 ns1 c2 x2 t2 q2 i1 n1 h3 tk3 D1 c3 h4 q3 h5 g1 h8 F8 N8
    exact h _ _ r1 D1 vs1 vs1 ns1 c2 c3 _ _ F8 rfl rfl rfl (fun p hp => N8 p (by
        simp only [List.mem_cons] at hp ⊢
        rcases hp with h | h | h <;> simp only [h, true_or, or_true])) q3.1 (fun p hp => Nat.lt_trans (q1 p hp) q2) i1 i1 n1 (good4 g1)
end Mine
end
section
open PySem PySem.W PySem.Calls PyProof.Rows
namespace Mine
local macro_rules | `(tactic| walk_at "ZZ0") => `(tactic| skip)
local macro_rules | `(tactic| walk_at "ZZ1") => `(tactic| skip)
local macro_rules | `(tactic| walk_at "ZZ2") => `(tactic| skip)
local macro_rules | `(tactic| walk_at "ZZ3") => `(tactic| skip)
local macro_rules | `(tactic| walk_at "ZZ4") => `(tactic| skip)
local macro_rules | `(tactic| walk_at "ZZ5") => `(tactic| skip)
local macro_rules | `(tactic| walk_at "ZZ6") => `(tactic| skip)
local macro_rules | `(tactic| walk_at "ZZ7") => `(tactic| skip)
local macro_rules | `(tactic| walk_at "ZZ8") => `(tactic| skip)
local macro_rules | `(tactic| walk_at "ZZ9") => `(tactic| skip)
local macro_rules | `(tactic| walk_at "ZZ10") => `(tactic| skip)
local macro_rules | `(tactic| walk_at "ZZ11") => `(tactic| skip)
local macro_rules | `(tactic| walk_at "ZZ12") => `(tactic| skip)
local macro_rules | `(tactic| walk_at "ZZ13") => `(tactic| skip)
local macro_rules | `(tactic| walk_at "ZZ14") => `(tactic| skip)
local macro_rules | `(tactic| walk_at "ZZ15") => `(tactic| skip)
local macro_rules | `(tactic| walk_at "ZZ16") => `(tactic| skip)
local macro_rules | `(tactic| walk_at "ZZ17") => `(tactic| skip)
local macro_rules | `(tactic| walk_at "ZZ18") => `(tactic| skip)
local macro_rules | `(tactic| walk_at "ZZ19") => `(tactic| skip)
local macro_rules | `(tactic| walk_at "ZZ20") => `(tactic| skip)
local macro_rules | `(tactic| walk_at "ZZ21") => `(tactic| skip)
local macro_rules | `(tactic| walk_at "ZZ22") => `(tactic| skip)
local macro_rules | `(tactic| walk_at "ZZ23") => `(tactic| skip)
local macro_rules | `(tactic| walk_at "ZZ24") => `(tactic| skip)
local macro_rules | `(tactic| walk_at "ZZ25") => `(tactic| skip)
local macro_rules | `(tactic| walk_at "ZZ26") => `(tactic| skip)
local macro_rules | `(tactic| walk_at "ZZ27") => `(tactic| skip)
local macro_rules | `(tactic| walk_at "ZZ28") => `(tactic| skip)
local macro_rules | `(tactic| walk_at "ZZ29") => `(tactic| skip)
theorem rs18 {M : Model} {A : Around} {E : Value → Shared → Prop} {s : Shared} {env : Env} {pos : Pos} {Q : Flow → Shared → Prop} (h : wpAny M A (exec (.Pass pos) env) Q E s) : wpAny M A (exec (.Pass pos) env) Q E s := by
  w_top off
  first | (walk1; fail) | exact h
end Mine
end
section
open PySem PySem.W PySem.Calls PyProof.Rows
set_option maxRecDepth 100000
set_option maxHeartbeats 4000000
set_option rowWalk.seconds 0
namespace Mine
local macro_rules | `(tactic| k_all) => `(tactic| assumption)
local macro_rules | `(tactic| walk_at "call ref") => `(tactic| (k_here; k_dflt (refine' valid_spec ?B ?F ?X ?N ?T ?hi ?hl ?_; (case B => k_asm); (case F => k_asm); (case X => k_asm); (case N => k_asm); (case T => k_asm); (case hi => assumption); (case hl => assumption); k_whole; intro h9 tk9 t9 x9 xt9 b9 F9 N9 l9 hb9; (cases b9; (rotate_left; (exact absurd (hb9.mp rfl) (by assumption)))))))
local macro_rules | `(tactic| walk_at "exec Raise some none") => `(tactic| (k_here; k_dflt (refine' Raise_ownX (C := 277) ?F ?O PySem.F.excBase_Exception ?h ?n ?_ ?a ?b; (case F => exact Fr.keep (by k_asm)); (case h => rfl); (case a => rfl); (case b => rfl); (case n => (intro Q9 hq9; refine' nameX_K ?F ?X ?T ?e ?_ ?a ?b; (case F => k_asm); (case X => k_asm); (case T => k_asm); (case a => rfl); (case b => rfl); (case e => k_is); exact hq9)); (case O => exact own_of_in (by k_asm) (by k_asm) (by k_is) (by k_exc)); k_whole)))
local macro_rules | `(tactic| walk_at "leaving ref") => `(tactic| (k_here; (refine' leave_raiseX ?k1 ?k0 ?k2 ?k3 ?kf ?_ ?kk; (case k0 => assumption); (case k1 => assumption); (case k2 => assumption); (case k3 => k_asm); (case kf => rfl); (case kk => rfl); k_whole; intro h' t' R' U')))
theorem dst_false {w : World} {mean : ExcName → Option Value} {mg mb : Str → Option Value} {gd : Option (List Code)} {cn : Str} {nms : List (Str × NameKind)} {sg sc : Bool} {mo : List (Str × Const)} {a : Addr} {ccd : Value} {cl : List (Str × Addr)} {outer : List Env} {A₀ : Around} {base h₀ : Heap} {L : Addr} {m : Str → Option Value} {rest : List (Addr × Obj)} {s : Shared}
    {Q E : Value → Shared → Prop} {r : Addr} {vs : List Value} {ns : List Int} {nr : Nat}
    (B : Below A₀ base outer h₀) (F : Fr h₀ L s.heap m) (X : (hd.heap_39 w.params).In h₀) (N : News h₀ L s.heap ((r, listOf vs.toArray nr) :: rest)) (T : Top TP LS mean mg mb h₀) (hi : IntsAre vs ns) (hlen : ns.length ≤ 11) (hv : ¬ Valid ns)
    (hr : ∀ g h' e t x xt tk led, Fr h₀ L g m → g.UpToSlots h' → RaisedK base (envX cn { kind := .function, names := nms, isGenerator := sg, isCoroutine := sc, more := mo } L a ccd cl :: outer) e (.ref 277) t [.str x xt] led h' → (∀ p ∈ (r, listOf vs.toArray nr) :: rest, p ∈ led) → E (.ref e) { s with heap := h', toks := tk }) :
    wpAny (model PP w) (ktrTop 302 7 gd cn { kind := .function, names := nms, isGenerator := sg, isCoroutine := sc, more := mo } L a ccd cl outer) (call (.ref 673) [.ref r]) Q E s := by
  refine of_mk ?_
  k_fill
  intro _
  k_steps
  exact hr _ _ _ _ _ _ _ _ (by assumption) (by assumption) (by assumption) (by intro p hp; repeat' (first | exact hp | refine List.Mem.tail _ ?_))
end Mine
end
section
open PySem PySem.W PySem.Calls PyProof.Rows
namespace Mine
local macro_rules | `(tactic| walk_at "ZZ0") => `(tactic| skip)
local macro_rules | `(tactic| walk_at "ZZ1") => `(tactic| skip)
local macro_rules | `(tactic| walk_at "ZZ2") => `(tactic| skip)
local macro_rules | `(tactic| walk_at "ZZ3") => `(tactic| skip)
local macro_rules | `(tactic| walk_at "ZZ4") => `(tactic| skip)
local macro_rules | `(tactic| walk_at "ZZ5") => `(tactic| skip)
local macro_rules | `(tactic| walk_at "ZZ6") => `(tactic| skip)
local macro_rules | `(tactic| walk_at "ZZ7") => `(tactic| skip)
local macro_rules | `(tactic| walk_at "ZZ8") => `(tactic| skip)
local macro_rules | `(tactic| walk_at "ZZ9") => `(tactic| skip)
local macro_rules | `(tactic| walk_at "ZZ10") => `(tactic| skip)
local macro_rules | `(tactic| walk_at "ZZ11") => `(tactic| skip)
local macro_rules | `(tactic| walk_at "ZZ12") => `(tactic| skip)
local macro_rules | `(tactic| walk_at "ZZ13") => `(tactic| skip)
local macro_rules | `(tactic| walk_at "ZZ14") => `(tactic| skip)
local macro_rules | `(tactic| walk_at "ZZ15") => `(tactic| skip)
local macro_rules | `(tactic| walk_at "ZZ16") => `(tactic| skip)
local macro_rules | `(tactic| walk_at "ZZ17") => `(tactic| skip)
local macro_rules | `(tactic| walk_at "ZZ18") => `(tactic| skip)
local macro_rules | `(tactic| walk_at "ZZ19") => `(tactic| skip)
local macro_rules | `(tactic| walk_at "ZZ20") => `(tactic| skip)
local macro_rules | `(tactic| walk_at "ZZ21") => `(tactic| skip)
local macro_rules | `(tactic| walk_at "ZZ22") => `(tactic| skip)
local macro_rules | `(tactic| walk_at "ZZ23") => `(tactic| skip)
local macro_rules | `(tactic| walk_at "ZZ24") => `(tactic| skip)
local macro_rules | `(tactic| walk_at "ZZ25") => `(tactic| skip)
local macro_rules | `(tactic| walk_at "ZZ26") => `(tactic| skip)
local macro_rules | `(tactic| walk_at "ZZ27") => `(tactic| skip)
local macro_rules | `(tactic| walk_at "ZZ28") => `(tactic| skip)
local macro_rules | `(tactic| walk_at "ZZ29") => `(tactic| skip)
theorem rs19 {M : Model} {A : Around} {E : Value → Shared → Prop} {s : Shared} {env : Env} {pos : Pos} {Q : Flow → Shared → Prop} (h : wpAny M A (exec (.Pass pos) env) Q E s) : wpAny M A (exec (.Pass pos) env) Q E s := by
  w_top off
  first | (walk1; fail) | exact h
end Mine
end
section
open PySem PySem.W PySem.Calls PyProof.Rows
set_option maxRecDepth 100000
set_option maxHeartbeats 4000000
set_option rowWalk.seconds 0
namespace Mine
local macro_rules | `(tactic| k_all) => `(tactic| assumption)
local macro_rules | `(tactic| walk_at "execs nil") => `(tactic| (k_here; refine wpAny_execs_nil ?_))
local macro_rules | `(tactic| walk_at "exec Try") => `(tactic| (k_here; refine wpAny_Try_except ?_))
local macro_rules | `(tactic| walk_at "RUN673") => `(tactic| repeat' (first | ((fail_if_success (with_reducible show wpAny _ _ (call (.ref 673) _) _ _ _)); first | (k_unfold; (try dsimp only)) | walk1 | (dsimp only; walk1) | (leave1; try dsimp only))))
theorem fr_pickA {g h : Heap} {L : Addr} {m : Str → Option Value} {x x2 x3 : Str} {v v2 v3 : Value} (F : Fr g L h m) (e : m x = some v) (e2 : m x2 = some v2) (e3 : m x3 = some v3) : ∃ M : Str → Option Value, Fr g L h (fun y => if y = x then some v else if y = x2 then some v2 else if y = x3 then some v3 else M y) := by
  refine ⟨m, ?_⟩
  have : (fun y => if y = x then some v else if y = x2 then some v2 else if y = x3 then some v3 else m y) = m := by
    funext y
    by_cases h1 : y = x
    · rw [if_pos h1, h1, e]
    · rw [if_neg h1]
      by_cases h2 : y = x2
      · rw [if_pos h2, h2, e2]
      · rw [if_neg h2]
        by_cases h3 : y = x3
        · rw [if_pos h3, h3, e3]
        · rw [if_neg h3]
  rw [this]
  exact F
theorem tryFalse {w : World} : InLaw w fun cn body sc cd => ∀ (mean : ExcName → Option Value) (mg mb : Str → Option Value) (h₀ : Heap) (L : Addr) (m : Str → Option Value) (s : Shared)
    (Q : Flow → Shared → Prop) (r kp : Addr) (vs ws : List Value) (ns : List Int) (c c' : Nat) (R : List (Addr × Obj)),
    Below callerA h₀ [] h₀ → Fr h₀ L s.heap m → m (Str.ofString "row") = some (.ref r) → m (Str.ofString "kept") = some (.ref kp) → m (Str.ofString "good") = some (.bool false) → (hd.heap_39 w.params).In h₀ → News h₀ L s.heap ((kp, W.listOf (List.toArray ws) c') :: (r, W.listOf (List.toArray vs) c) :: R) → Top TP LS mean mg mb h₀ →
    IntsAre vs ns → IntsAre ws ns → ns.length ≤ 11 → ¬ Valid ns →
    (∀ h' tk m' R', Fr h₀ L h' m' → News h₀ L h' R' → (∀ p ∈ (kp, W.listOf (List.toArray ws) c') :: (r, W.listOf (List.toArray vs) c) :: R, p ∈ R') → Q (.ret (.bool true)) { s with heap := h', toks := tk }) →
    wpAny (model PP w) (ktrTop 302 7 (some []) cn sc L 699 cd (cellsFrom (L + 1) sc.names []) []) (execs ((body.drop 4).take 1) (envX cn sc L 699 cd (cellsFrom (L + 1) sc.names []))) Q Never s := by
  refine of_mk ?_
  k_fill
  intro _
  refine inLaw_of (by k_is) ?_
  intro mean mg mb h₀ L m s Q r kp vs ws ns c c' R B F e1 e2 e3 X N T hi hj hlen hv h
  obtain ⟨M, F1⟩ := fr_pickA F e1 e2 e3
  clear F e1 e2 e3
  dsimp only [List.take, List.drop]
  walk_at "RUN673"
  have N2 : News h₀ L s.heap ((r, W.listOf (List.toArray vs) c) :: (kp, W.listOf (List.toArray ws) c') :: R) := fun p hp => N p (by
    simp only [List.mem_cons] at hp ⊢
    rcases hp with h | h | h <;> simp only [h, true_or, or_true])
  refine dst_false B F1 X N2 T hi hlen hv fun g h' e t x xt tk led F2 hU RK hled => ?_
  show wpAny _ (callerA.deeper _) _ _ _ _
  refine' caught_OX (C := 277) (bmB := [.type "Exception", .type "BaseException", .type "object"]) (newId := "Exception.__new__") ?B F2 ?U ?R X ?T ?e ?q ?hb rfl ?_ ?_
  case B => exact B
  case U => exact hU
  case R => exact RK
  case T => exact topRead_of T
  case e => k_is
  case q => k_exc
  case hb => rfl
  · intro A' E' Q' s₁ F9 hq9
    refine' nameX_K F9 X (topRead_of T) ?e2 hq9 ?a ?b
    case a => rfl
    case b => rfl
    case e2 => k_is
  · intro h5 news₂ F5 N₂ G5 N5
    have N6 : News h₀ L h5 ((r, W.listOf (List.toArray vs) c) :: (kp, W.listOf (List.toArray ws) c') :: R) := fun p hp => N5 p (hled p hp)
    clear N N2 F1
    k_steps
    exact h _ _ _ _ F5 N6 fun p hp => by
      simp only [List.mem_cons] at hp ⊢
      rcases hp with h | h | h <;> simp only [h, true_or, or_true]
theorem tryTrue {w : World} : InLaw w fun cn body sc cd => ∀ (mean : ExcName → Option Value) (mg mb : Str → Option Value) (gd : Option (List Code)) (outer : List Env) (A₀ : Around) (base h₀ : Heap) (L : Addr) (m : Str → Option Value) (s : Shared)
    (Q : Flow → Shared → Prop) (r : Addr) (vs : List Value) (ns : List Int) (c : Nat) (ps : Array Value) (R : List (Addr × Obj)),
    Below A₀ base outer h₀ → Fr h₀ L s.heap m → m (Str.ofString "row") = some (.ref r) → (hd.heap_39 w.params).In h₀ → News h₀ L s.heap ((r, W.listOf (List.toArray vs) c) :: (670, tabObj ps) :: R) → Top TP LS mean mg mb h₀ →
    IntsAre vs ns → ns.length ≤ 11 → Valid ns → TriplesOk ps.toList → (((r, W.listOf (List.toArray vs) c) :: (670, tabObj ps) :: R).map (·.1)).Nodup →
    (∀ s' on oa nks aks tl ps' adj g d na aa ga t1 t2 t3, @LT.lt Nat _ 670 d → s'.drawn = s.drawn → s'.os = s.os → (AllBare s.gens → AllBare s'.gens) → Fr h₀ L s'.heap (fun y => if y = Str.ofString "tree" then some (.ref g) else m y) →
      News h₀ L s'.heap ((g, instObj 629 d) :: (d, dictOf (DEg w t1 t2 t3 ga na aa) 3) :: (na, on) :: (aa, oa) :: (tl ++ ((r, listOf vs.toArray c) :: (670, tabObj ps') :: R))) →
      (((g, instObj 629 d) :: (d, dictOf (DEg w t1 t2 t3 ga na aa) 3) :: (na, on) :: (aa, oa) :: (tl ++ ((r, listOf vs.toArray c) :: (670, tabObj ps') :: R))).map (·.1)).Nodup →
      on.IsDictOf (PySem.intKind PP w) nks → oa.IsDictOf (PySem.intKind PP w) aks → nks.map (·.1) = adj.map (·.1) → Inn (prog := PP) w tl aks adj → (adj.map (·.1)).Nodup → Closed adj → (na == sysModules) = false → (aa == sysModules) = false → TriplesOk ps'.toList → TreeOf ns adj → Q .next s') →
    wpAny (model PP w) (ktrTop 302 7 gd cn sc L 699 cd (cellsFrom (L + 1) sc.names []) outer) (execs ((body.drop 4).take 1) (envX cn sc L 699 cd (cellsFrom (L + 1) sc.names []))) Q Never s := by
  refine of_mk ?_
  k_fill
  intro _
  refine inLaw_of (by k_is) ?_
  intro mean mg mb gd outer A₀ base h₀ L m s Q r vs ns c ps R B F e1 X N T hi hlen hv hps hnd h
  obtain ⟨M, rfl⟩ : ∃ M : Str → Option Value, m = fun y => if y = Str.ofString "row" then some (.ref r) else M y := ⟨m, by
    funext y
    split
    · rename_i q; rw [q, e1]
    · rfl⟩
  clear e1
  dsimp only [List.take, List.drop]
  walk_at "RUN673"
  refine dst_true B F X N T hi hlen hv hps hnd fun s' on oa nks aks tl ps' adj g d na aa ga t1 t2 t3 k0 k1 k2 k3 F5 N5 k4 k5 k6 k7 k8 k9 k10 k11 k12 k13 k14 => ?_
  clear F N
  k_steps
  rename_i h' F' N'
  exact h { heap := h', gens := s'.gens, drawn := s'.drawn, toks := s'.toks + 1, os := s'.os } on oa nks aks tl ps' adj g d na aa ga t1 t2 t3 k0 k1 k2 k3 F' N' k4 k5 k6 k7 k8 k9 k10 k11 k12 k13 k14
end Mine
end
section
open PySem PySem.W PySem.Calls PyProof.Rows
namespace Mine
local macro_rules | `(tactic| walk_at "ZZ0") => `(tactic| skip)
local macro_rules | `(tactic| walk_at "ZZ1") => `(tactic| skip)
local macro_rules | `(tactic| walk_at "ZZ2") => `(tactic| skip)
local macro_rules | `(tactic| walk_at "ZZ3") => `(tactic| skip)
local macro_rules | `(tactic| walk_at "ZZ4") => `(tactic| skip)
local macro_rules | `(tactic| walk_at "ZZ5") => `(tactic| skip)
local macro_rules | `(tactic| walk_at "ZZ6") => `(tactic| skip)
local macro_rules | `(tactic| walk_at "ZZ7") => `(tactic| skip)
local macro_rules | `(tactic| walk_at "ZZ8") => `(tactic| skip)
local macro_rules | `(tactic| walk_at "ZZ9") => `(tactic| skip)
local macro_rules | `(tactic| walk_at "ZZ10") => `(tactic| skip)
local macro_rules | `(tactic| walk_at "ZZ11") => `(tactic| skip)
local macro_rules | `(tactic| walk_at "ZZ12") => `(tactic| skip)
local macro_rules | `(tactic| walk_at "ZZ13") => `(tactic| skip)
local macro_rules | `(tactic| walk_at "ZZ14") => `(tactic| skip)
local macro_rules | `(tactic| walk_at "ZZ15") => `(tactic| skip)
local macro_rules | `(tactic| walk_at "ZZ16") => `(tactic| skip)
local macro_rules | `(tactic| walk_at "ZZ17") => `(tactic| skip)
local macro_rules | `(tactic| walk_at "ZZ18") => `(tactic| skip)
local macro_rules | `(tactic| walk_at "ZZ19") => `(tactic| skip)
local macro_rules | `(tactic| walk_at "ZZ20") => `(tactic| skip)
local macro_rules | `(tactic| walk_at "ZZ21") => `(tactic| skip)
local macro_rules | `(tactic| walk_at "ZZ22") => `(tactic| skip)
local macro_rules | `(tactic| walk_at "ZZ23") => `(tactic| skip)
local macro_rules | `(tactic| walk_at "ZZ24") => `(tactic| skip)
local macro_rules | `(tactic| walk_at "ZZ25") => `(tactic| skip)
local macro_rules | `(tactic| walk_at "ZZ26") => `(tactic| skip)
local macro_rules | `(tactic| walk_at "ZZ27") => `(tactic| skip)
local macro_rules | `(tactic| walk_at "ZZ28") => `(tactic| skip)
local macro_rules | `(tactic| walk_at "ZZ29") => `(tactic| skip)
theorem rs20 {M : Model} {A : Around} {E : Value → Shared → Prop} {s : Shared} {env : Env} {pos : Pos} {Q : Flow → Shared → Prop} (h : wpAny M A (exec (.Pass pos) env) Q E s) : wpAny M A (exec (.Pass pos) env) Q E s := by
  w_top off
  first | (walk1; fail) | exact h
end Mine
end
section
open PySem PySem.W PySem.Calls PyProof.Rows
set_option maxRecDepth 100000
set_option maxHeartbeats 2000000
set_option rowWalk.seconds 0
namespace Mine
local macro_rules | `(tactic| k_all) => `(tactic| assumption)
local macro_rules | `(tactic| walk_at "call builtin:len") => `(tactic| (k_here; (with_reducible show wpAny _ _ (call (Value.builtin "len") [Value.ref _]) _ _ _); k_dflt (refine kda_len (knd := PySem.intKind _ _) (by k_asm) (by k_mem) (by k_asm) (by k_asm) (by omega) ?_)))
local macro_rules | `(tactic| walk_at "getAttr ref") => `(tactic| (k_here; k_dflt (refine' getS_own ?k1 ?k2 ?k3 ?k4 ?k5 ?k6 ?k7 ?k8 ?k9 ?_; (case k1 => k_asm); (case k2 => k_asm); (case k3 => k_inst); (case k4 => k_is); (case k5 => k_is); (case k6 => k_is); (case k7 => k_is); (case k8 => k_get); (case k9 => k_handed); k_whole)))
local macro_rules | `(tactic| walk_at "getMethod ref") => `(tactic| (k_here; k_dflt (first | (refine' methS_inst ?k1 ?k2 ?k3 ?k4 ?k5 ?k6 ?k7 ?_; (case k1 => k_asm); (case k2 => k_asm); (case k3 => k_inst); (case k4 => k_is); (case k5 => k_is); (case k6 => k_is); (case k7 => k_get); k_whole) | (refine' dictS_getm (News.get (by k_asm) (by k_mem)) ?_; k_whole))))
local macro_rules | `(tactic| walk_at "call builtin:dict.get") => `(tactic| (k_here; (with_reducible show wpAny _ _ (call (Value.builtin "dict.get") [Value.ref _, Value.str _ _, _]) _ _ _); k_dflt (refine' dictS_get2 (News.get (by k_asm) (by k_mem)) ?k ?y ?l ?_; (case k => assumption); (case y => assumption); (case l => k_get); k_whole)))
local macro_rules | `(tactic| walk_at "setItem ref str") => `(tactic| (k_here; k_dflt (refine' dictS_set ?F ?N ?U ?k ?l ?z ?_; (case F => k_asm); (case N => k_asm); (case U => k_upd); (case k => assumption); (case l => k_get); (case z => simp); k_whole); intro h' F' N'))
local macro_rules | `(tactic| walk_at "call builtin:hasattr") => `(tactic| (k_here; k_dflt (refine' hasattr_K ?F ?X ?N ?I rfl ?g ?hh ?ha ?c ?l ?cd ?fo ?n ?z ?mo ?_; (case F => k_asm); (case X => k_asm); (case N => k_asm); (case I => k_inst); (case g => k_is); (case hh => k_is); (case ha => k_is); (case c => decide +kernel); (case l => (refine lookS ?_; k_get)); (case cd => k_is); (case fo => decide +kernel); (case n => decide +kernel); (case z => decide +kernel); (case mo => k_is); k_whole); intro h' tk' F' N'))
local macro_rules | `(tactic| walk_at "call type:list") => `(tactic| (k_here; (with_reducible show wpAny _ _ (call (Value.type "list") [Value.ref _]) _ _ _); k_dflt (refine' list_dictI rfl ?F ?N ?p ?d ?l ?n ?_; (case F => k_asm); (case N => k_asm); (case p => k_mem); (case d => assumption); (case l => assumption); (case n => omega); k_whole); intro B' c' h' tk' vs' F' N' l1 i'; (try k_lt l1)))
local macro_rules | `(tactic| walk_at "compareOp NotIn int ref") => `(tactic| (k_here; k_dflt (refine' kdg_notin (knd := PySem.intKind _ _) ?N ?p ?d ?l (intKind_is _ _ _ _) _ ?b ?_; (case N => k_asm); (case p => k_mem); (case d => assumption); (case l => assumption); (case b => assumption); k_whole)))
local macro_rules | `(tactic| walk_at "setItem ref int") => `(tactic| (k_here; k_dflt (refine' kda_set (knd := PySem.intKind _ _) ?F ?N ?U ?d (intKind_is _ _ _ _) ?z ?_; (case F => k_asm); (case N => k_asm); (case U => k_updF); (case d => assumption); (case z => assumption)); intro h' o' F' N' hd'; (try dsimp only at N')))
local macro_rules | `(tactic| walk_at "subscriptTail") => `(tactic| (k_here; k_dflt (refine kdt_tail (knd := PySem.intKind _ _) (by k_asm) (by k_mem) (by k_asm) ?_)))
local macro_rules | `(tactic| walk_at "getItem ref int") => `(tactic| (k_here; k_dflt (refine kdt_getItem (knd := PySem.intKind _ _) (by k_asm) (by k_mem) (by k_asm) (intKind_is _ _ _ _) (by assumption) ?_)))
local macro_rules | `(tactic| walk_at "call builtin:list.append") => `(tactic| (k_here; (with_reducible show wpAny _ _ (call (Value.builtin _) [Value.ref _, _]) _ _ _); k_dflt (refine' append_K ?k1 ?k2 ?k3 ?_ ?z; (case k1 => k_asm); (case k2 => k_asm); (case k3 => k_upd); (case z => (rw [List.size_toArray, sizeLine_eq]; omega)); k_whole); intro h' F' N'; (try k_sweep)))
def nearOnes (es : List (Int × Int)) (near : List Int) (v : Int) : List Int := (es.filter fun e => (decide (v = e.1) || decide (v = e.2)) && !decide ((if decide (e.1 = v) = true then e.2 else e.1) ∈ near)).map fun e => if decide (e.1 = v) = true then e.2 else e.1
def nearEnd (es : List (Int × Int)) : Nat → Nat → List Int → Option (List Int)
  | 0, _, _ => none
  | f + 1, i, near => match near[i]? with
    | none => some near
    | some v => nearEnd es f (i + 1) (near ++ nearOnes es near v)
local macro_rules | `(tactic| walk_at "RUNFOR") => `(tactic| repeat' (first | ((fail_if_success (with_reducible show wpAny _ _ (exec (Stmt.For _ _ _ _ _) _) _ _ _)); (fail_if_success (with_reducible show wpAny _ _ (pyIter _) _ _ _)); first | (k_unfold; (try dsimp only)) | walk1 | (dsimp only; walk1) | (leave1; try dsimp only))))
def NInv (h₀ : Heap) (L S r nr I : Addr) (M : Str → Option Value) (T : List (Addr × Obj)) (es : List (Int × Int)) (res : List Int) (s₀ : Shared) (k : Nat) (s : Shared) : Prop :=
  ∃ (i cN : Nat) (near : List Int) (vsN : List Value) (ocv ocn oI : Obj) (v : Option Value),
    Fr h₀ L s.heap (fun y => if y = Str.ofString "edges" then some (.ref S) else if y = Str.ofString "row" then some (.ref r) else M y) ∧
    News h₀ L s.heap ((I, oI) :: (nr, listOf (List.toArray vsN) cN) :: (L + 1, ocv) :: (L + 1 + 1, ocn) :: T) ∧ ocv.data = .cell v ∧ ocn.data = .cell (some (.ref nr)) ∧ oI.cls = .type "list_iterator" ∧ oI.data = .fields #[.ref nr, .int i 0] ∧ IntsAre vsN near ∧
    nearEnd es k i near = some res ∧ s.gens = s₀.gens ∧ s.drawn = s₀.drawn ∧ s.os = s₀.os
theorem any_mem (l : List Int) (x : Int) : (l.any fun y => y == x) = decide (x ∈ l) := by
  induction l with
  | nil => rfl
  | cons a r ih =>
    rw [List.any_cons, ih, Bool.eq_iff_iff]
    simp only [Bool.or_eq_true, beq_iff_eq, decide_eq_true_eq, List.mem_cons]
    exact ⟨fun h => h.imp (fun e => e.symm) id, fun h => h.imp (fun e => e.symm) id⟩
theorem two_any (a b v : Int) : ([a, b].any fun x => x == v) = (decide (v = a) || decide (v = b)) := by
  rw [any_mem, Bool.eq_iff_iff]
  simp only [decide_eq_true_eq, List.mem_cons, List.not_mem_nil, or_false, Bool.or_eq_true]
theorem nearEnd_len {es : List (Int × Int)} {res : List Int} : ∀ (f i : Nat) (near : List Int), nearEnd es f i near = some res → near.length ≤ res.length
  | 0, _, _, h => by simp [nearEnd] at h
  | f + 1, i, near, h => by
    rw [nearEnd] at h
    cases e : near[i]? with
    | none =>
      rw [e] at h
      simp only [Option.some.injEq] at h
      rw [h]; exact Nat.le_refl _
    | some v =>
      rw [e] at h
      have := nearEnd_len f (i + 1) _ h
      rw [List.length_append] at this
      omega
local macro_rules | `(tactic| walk_at "eval ListComp") => `(tactic| (k_here; k_dflt (refine' pairComp ?F0 ?e ?hh ?hclos ?hcell ?hkind ?hnames ?hxa ?hxb ?hab ?_; (case F0 => k_asm); (case e => rfl); (case hh => rfl); (case hclos => with_unfolding_all rfl); (case hcell => decide); (case hkind => rfl); (case hnames => decide); (case hxa => rfl); (case hxb => rfl); (case hab => decide))))
local macro_rules | `(tactic| walk_at "RUNP") => `(tactic| repeat' (first | ((fail_if_success (with_reducible show PairSrcC _ _ _ _ _ _ _ _ _ _ _ _ _ _ _ _)); first | (k_unfold; (try dsimp only)) | walk1 | (dsimp only; walk1) | (leave1; try dsimp only))))
theorem stageC {w : World} : InLaw w fun cn body sc cd => ∀ (mean : ExcName → Option Value) (mg mb : Str → Option Value) (gd : Option (List Code)) (outer : List Env) (A₀ : Around) (base h₀ : Heap) (L : Addr) (M : Str → Option Value) (s : Shared)
    (Q : Flow → Shared → Prop) (S r : Addr) (acc vs : List Value) (cS cr : Nat) (es : List (Int × Int)) (tups R : List (Addr × Obj)) (ocv ocn : Obj) (v0 n0 : Option Value) (res row : List Int) (fuel : Nat), IntsAre vs row →
    Below A₀ base outer h₀ → Fr h₀ L s.heap (fun y => if y = Str.ofString "edges" then some (.ref S) else if y = Str.ofString "row" then some (.ref r) else M y) → (hd.heap_39 w.params).In h₀ →
    News h₀ L s.heap ((L + 1, ocv) :: (L + 2, ocn) :: (S, listOf (List.toArray acc) cS) :: (r, listOf (List.toArray vs) cr) :: R) → Top TP LS mean mg mb h₀ →
    ocv.data = .cell v0 → ocn.data = .cell n0 → @LT.lt Nat _ (L + 2) S → @LT.lt Nat _ (L + 2) r → (∀ p ∈ R, p.1 ≠ L + 1 ∧ p.1 ≠ L + 2) → PairsAre acc tups es → (∀ p ∈ tups, p ∈ R) → es.length ≤ 11 → vs.length ≤ 11 →
    nearEnd es fuel 0 [0] = some res → res.length = vs.length →
    (∀ s', s'.gens = s.gens → s'.drawn = s.drawn → s'.os = s.os → Fr h₀ L s'.heap (fun y => if y = Str.ofString "edges" then some (.ref S) else if y = Str.ofString "row" then some (.ref r) else M y) → News h₀ L s'.heap ((r, listOf (List.toArray vs) cr) :: R) → Q (.ret (.bool true)) s') →
    wpAny (model PP w) (ktrTop 302 7 gd cn sc L 699 cd (cellsFrom (L + 1) sc.names []) outer) (execs (body.drop 10) (envX cn sc L 699 cd (cellsFrom (L + 1) sc.names []))) Q Never s := by
  refine of_mk ?_
  k_fill
  intro _
  refine inLaw_of (by k_is) ?_
  intro mean mg mb gd outer A₀ base h₀ L M s Q S r acc vs cS cr es tups R ocv ocn v0 n0 res row fuel hrow B F X N T hv0 hn0 hLS hLr hR hP htm hes hvs hne hres h
  have hR1 : ∀ p ∈ R, p.1 ≠ L + 1 := fun p hp => (hR p hp).1
  have hR2 : ∀ p ∈ R, p.1 ≠ L + 2 := fun p hp => (hR p hp).2
  dsimp only [List.drop]
  walk_at "RUNFOR"
  rename_i nr h1 l1 h2 ocn2 F2 N2 hn2
  have F2' : Fr h₀ L h2 _ := F2
  have N2' : News h₀ L h2 _ := N2
  clear F2 N2
  refine For_I ?_
  walk_at "RUNFOR"
  have hnr2 : h2.IsList nr #[.int 0 s.toks] := ⟨_, (N2' (nr, _) (.head _)).1, rfl, 0, rfl⟩
  refine wpAny_pyIter_list hnr2 ?_
  have hltI : ∀ p ∈ (nr, listOf #[.int 0 s.toks] 0) :: (L + 1, ocv) :: (L + 1 + 1, ocn2) :: (S, listOf (List.toArray acc) cS) :: (r, listOf (List.toArray vs) cr) :: R, p.1 < h2.objs.size := fun p hp => Heap.lt_size (N2' p hp).1
  have hgI : h₀.get? h2.objs.size = none := by
    cases e : h₀.get? h2.objs.size with
    | none => rfl
    | some o => exact absurd (Heap.lt_size (F2'.keep _ _ e)) (Nat.lt_irrefl _)
  have hLI : L < h2.objs.size := F2'.ns.lt
  refine ⟨NInv h₀ L S r nr h2.objs.size M ((S, listOf (List.toArray acc) cS) :: (r, listOf (List.toArray vs) cr) :: R) es res s, fuel, ⟨0, 0, [0], [.int 0 s.toks], ocv, ocn2, { cls := .type "list_iterator", data := .fields #[.ref nr, .int 0 0] }, v0, F2'.push _, fun p hp => ?_, hv0, hn2, rfl, rfl, .cons 0 _ .nil, hne, rfl, rfl, rfl⟩, ?_⟩
  · rcases List.mem_cons.mp hp with rfl | hp
    · exact ⟨Heap.get?_push_size _ rfl, Ne.symm (Nat.ne_of_lt hLI), hgI⟩
    · exact ⟨Heap.get?_push_of_some _ (N2' p hp).1, (N2' p hp).2⟩
  clear F2' N2' hnr2
  rintro k s' ⟨i, cN, near, vsN, ocv', ocn', oI, v', F5, N5, hv5, hn5, hI1, hI2, hns5, hne5, hg5, hdr5, hos5⟩
  have hli : s'.heap.IsListIter h2.objs.size nr i := ⟨oI, (N5 _ (.head _)).1, hI1, hI2⟩
  have hnl : s'.heap.IsList nr vsN.toArray := ⟨_, (N5 _ (.tail _ (.head _))).1, rfl, cN, rfl⟩
  have hnlen := nearEnd_len _ _ _ hne5
  have hvn := hns5.length
  have hnT : ∀ p ∈ (nr, listOf (List.toArray vsN) cN) :: (L + 1, ocv') :: (L + 1 + 1, ocn') :: (S, listOf (List.toArray acc) cS) :: (r, listOf (List.toArray vs) cr) :: R, p.1 < h2.objs.size := fun p hp => by
    rcases List.mem_cons.mp hp with rfl | hp
    · exact hltI (nr, listOf #[.int 0 s.toks] 0) (.head _)
    rcases List.mem_cons.mp hp with rfl | hp
    · exact hltI (L + 1, ocv) (.tail _ (.head _))
    rcases List.mem_cons.mp hp with rfl | hp
    · exact hltI (L + 1 + 1, ocn2) (.tail _ (.tail _ (.head _)))
    · exact hltI p (.tail _ (.tail _ (.tail _ hp)))
  cases k with
  | zero => simp [nearEnd] at hne5
  | succ f =>
  rw [nearEnd] at hne5
  rcases Nat.lt_or_ge i near.length with hlt | hge
  · obtain ⟨v, tv, hv1, hv2⟩ := ints_at hns5 hlt
    rw [hv2] at hne5
    refine wpAny_pyNext_list_item hli hnl (by rw [List.getElem?_toArray]; exact hv1) fun h6 hli6 hs6 => ?_
    dsimp only
    refine wpAny_of_eq (a := ()) rfl ?_
    obtain ⟨oI6, hoI6, hI61, hI62⟩ := hli6
    have F6 : Fr h₀ L h6 _ := ⟨F5.ns.at' fun o e => (hs6.2 _ (Nat.ne_of_lt hLI)).trans e, fun b o e => (hs6.2 b (fun c => by rw [c, hgI] at e; cases e)).trans (F5.keep b o e), F5.above⟩
    have N6 : News h₀ L h6 ((h2.objs.size, oI6) :: (nr, listOf (List.toArray vsN) cN) :: (L + 1, ocv') :: (L + 1 + 1, ocn') :: (S, listOf (List.toArray acc) cS) :: (r, listOf (List.toArray vs) cr) :: R) := fun p hp => by
      rcases List.mem_cons.mp hp with rfl | hp
      · exact ⟨hoI6, Ne.symm (Nat.ne_of_lt hLI), hgI⟩
      · exact ⟨(hs6.2 _ (Nat.ne_of_lt (hnT p hp))).trans (N5 p (.tail _ hp)).1, (N5 p (.tail _ hp)).2⟩
    clear F5 N5
    have o1 : @LT.lt Nat _ (L + 1 + 1) nr := l1.2.1
    have o2 : @LT.lt Nat _ nr h2.objs.size := hnT _ (.head _)
    have o3 : @LT.lt Nat _ S nr := l1.2.2.1
    have o4 : @LT.lt Nat _ r nr := l1.2.2.2.1
    have o5 : ∀ p ∈ R, p.1 ≠ nr := fun p hp => Nat.ne_of_lt (allLt_mem l1.2.2.2.2 p hp)
    have o6 : ∀ p ∈ R, p.1 ≠ L + 1 + 1 := hR2
    walk_at "RUNP"
    rename_i h7 ocv7 F7 N7 hv7
    refine ⟨S, acc, cS, es, tups, _, (fun e => (decide (v = e.1) || decide (v = e.2)) && !decide ((if decide (e.1 = v) = true then e.2 else e.1) ∈ near)), (fun e => if decide (e.1 = v) = true then e.2 else e.1), rfl, F7, N7, by simp, hP, fun p hp => ?_, by omega, ?tst, ?elt, ?cont⟩
    · simp only [List.mem_cons]
      exact .inr (.inr (.inr (.inr (.inr (.inr (htm p hp))))))
    case tst =>
      rintro ⟨ea, eb⟩ ta tb I oI C oC D oD m₂ h8 tk8 E' hem hns ha hb F8 N8 hlt8 hID hDC
      k_steps
      · rename_i oI' D' h9 F9 N9 l9 a1 a2 _ _ a3
        refine ⟨?_, _, _, _, rfl, F9, N9, fun p hp => .tail _ hp⟩
        dsimp only at a2 a3 ⊢
        rw [two_any] at a1
        rw [any_mem] at a3
        rw [a1, if_pos (decide_eq_true a2), a3]
        rfl
      · rename_i oI' D' h9 F9 N9 l9 a1 a2 _ _ a3
        refine ⟨?_, _, _, _, rfl, F9, N9, fun p hp => .tail _ hp⟩
        dsimp only at a2 a3 ⊢
        rw [two_any] at a1
        rw [any_mem] at a3
        rw [a1, if_pos (decide_eq_true a2), a3]
        rfl
      · rename_i oI' D' h9 F9 N9 l9 a1 a2 _ _ a3
        refine ⟨?_, _, _, _, rfl, F9, N9, fun p hp => .tail _ hp⟩
        dsimp only at a2 a3 ⊢
        rw [two_any] at a1
        rw [any_mem] at a3
        rw [a1, if_neg (by simpa using a2), a3]
        rfl
      · rename_i oI' D' h9 F9 N9 l9 a1 a2 _ _ a3
        refine ⟨?_, _, _, _, rfl, F9, N9, fun p hp => .tail _ hp⟩
        dsimp only at a2 a3 ⊢
        rw [two_any] at a1
        rw [any_mem] at a3
        rw [a1, if_neg (by simpa using a2), a3]
        rfl
      · rename_i oI' D' h9 F9 N9 l9 a1
        refine ⟨?_, _, _, _, rfl, F9, N9, fun p hp => .tail _ hp⟩
        (try dsimp only)
        rw [two_any] at a1
        rw [a1]
        rfl
    case elt =>
      rintro ⟨ea, eb⟩ ta tb I oI C oC D oD m₂ h8 tk8 E' hem hns ha hb F8 N8 hlt8 hID hDC
      k_steps
      · rename_i a2
        refine ⟨⟨tb, ?_⟩, _, _, _, rfl, F8, N8, fun p hp => hp⟩
        dsimp only at a2 ⊢
        rw [if_pos (decide_eq_true a2)]
      · rename_i a2
        refine ⟨⟨ta, ?_⟩, _, _, _, rfl, F8, N8, fun p hp => hp⟩
        dsimp only at a2 ⊢
        rw [if_neg (by simpa using a2)]
    case cont =>
      intro D ys cD h8 tk8 F8 N8 hlt8 hys
      k_steps
      have hyl : ys.length ≤ 11 := by
        have h1 := hys.length
        rw [List.length_map] at h1
        have h2 := List.length_filter_le (fun e : Int × Int => (decide (v = e.1) || decide (v = e.2)) && !decide ((if decide (e.1 = v) = true then e.2 else e.1) ∈ near)) es
        omega
      refine extend_pair (pre := [(D, listOf (List.toArray ys) cD), (h2.objs.size, oI6)]) F8 N8 (.head _) (fun p hp => ?_) (fun p hp => ?_) (by omega) (by omega) fun h9 c9 F9 N9 => ?_
      · simp only [List.mem_cons, List.not_mem_nil, or_false] at hp
        rcases hp with rfl | rfl
        · exact Nat.ne_of_gt (hlt8 (nr, listOf (List.toArray vsN) cN) (by simp))
        · exact Nat.ne_of_gt o2
      · rcases List.mem_cons.mp hp with rfl | hp
        · exact Nat.ne_of_lt (Nat.lt_of_succ_lt o1)
        rcases List.mem_cons.mp hp with rfl | hp
        · exact Nat.ne_of_lt o1
        rcases List.mem_cons.mp hp with rfl | hp
        · exact Nat.ne_of_lt o3
        rcases List.mem_cons.mp hp with rfl | hp
        · exact Nat.ne_of_lt o4
        · exact o5 p hp
      dsimp only at F9 N9 ⊢
      clear F8 N8 N7 F7
      k_steps
      refine ⟨f, Nat.lt_succ_self _, i + 1, c9, near ++ nearOnes es near v, vsN ++ ys, ocv7, ocn', oI6, some (.int v tv), F9, ?_, hv7, hn5, hI61, hI62, hns5.append hys, hne5, hg5, hdr5, hos5⟩
      exact News.sub6 N9 fun p hp => .tail _ hp
  · have hno : near[i]? = none := List.getElem?_eq_none hge
    rw [hno] at hne5
    simp only [Option.some.injEq] at hne5
    refine wpAny_pyNext_list_end rfl hli hnl (by rw [List.getElem?_toArray]; exact List.getElem?_eq_none (by rw [hvn]; exact hge)) fun h6 hext => ?_
    dsimp only
    have F6 : Fr h₀ L h6 _ := ⟨F5.ns.at' fun o e => hext _ o (Nat.ne_of_lt hLI) e, fun b o e => hext b o (fun c => by rw [c, hgI] at e; cases e) (F5.keep b o e), F5.above⟩
    have N6 : News h₀ L h6 ((nr, listOf (List.toArray vsN) cN) :: (L + 1, ocv') :: (L + 1 + 1, ocn') :: (S, listOf (List.toArray acc) cS) :: (r, listOf (List.toArray vs) cr) :: R) := fun p hp => ⟨hext _ _ (Nat.ne_of_lt (hnT p hp)) (N5 p (.tail _ hp)).1, (N5 p (.tail _ hp)).2⟩
    clear F5 N5
    have hvl : vsN.length = vs.length := by rw [hvn, hne5]; exact hres
    have hvl2 : vsN.length ≤ 11 := by omega
    have hrl := hrow.length
    have hb1 : near.length ≤ 11 := by omega
    have hb2 : row.length ≤ 11 := by omega
    k_steps
    rw [show ((near.length : Int) == (row.length : Int)) = true by rw [beq_iff_eq]; omega]
    exact h _ hg5 hdr5 hos5 F6 (News.sub6 N6 fun p hp => by
      simp only [List.mem_cons] at hp ⊢
      rcases hp with h | h <;> simp only [h, true_or, or_true])
end Mine
end
section
open PySem PySem.W PySem.Calls PyProof.Rows
namespace Mine
local macro_rules | `(tactic| walk_at "ZZ0") => `(tactic| skip)
local macro_rules | `(tactic| walk_at "ZZ1") => `(tactic| skip)
local macro_rules | `(tactic| walk_at "ZZ2") => `(tactic| skip)
local macro_rules | `(tactic| walk_at "ZZ3") => `(tactic| skip)
local macro_rules | `(tactic| walk_at "ZZ4") => `(tactic| skip)
local macro_rules | `(tactic| walk_at "ZZ5") => `(tactic| skip)
local macro_rules | `(tactic| walk_at "ZZ6") => `(tactic| skip)
local macro_rules | `(tactic| walk_at "ZZ7") => `(tactic| skip)
local macro_rules | `(tactic| walk_at "ZZ8") => `(tactic| skip)
local macro_rules | `(tactic| walk_at "ZZ9") => `(tactic| skip)
local macro_rules | `(tactic| walk_at "ZZ10") => `(tactic| skip)
local macro_rules | `(tactic| walk_at "ZZ11") => `(tactic| skip)
local macro_rules | `(tactic| walk_at "ZZ12") => `(tactic| skip)
local macro_rules | `(tactic| walk_at "ZZ13") => `(tactic| skip)
local macro_rules | `(tactic| walk_at "ZZ14") => `(tactic| skip)
local macro_rules | `(tactic| walk_at "ZZ15") => `(tactic| skip)
local macro_rules | `(tactic| walk_at "ZZ16") => `(tactic| skip)
local macro_rules | `(tactic| walk_at "ZZ17") => `(tactic| skip)
local macro_rules | `(tactic| walk_at "ZZ18") => `(tactic| skip)
local macro_rules | `(tactic| walk_at "ZZ19") => `(tactic| skip)
local macro_rules | `(tactic| walk_at "ZZ20") => `(tactic| skip)
local macro_rules | `(tactic| walk_at "ZZ21") => `(tactic| skip)
local macro_rules | `(tactic| walk_at "ZZ22") => `(tactic| skip)
local macro_rules | `(tactic| walk_at "ZZ23") => `(tactic| skip)
local macro_rules | `(tactic| walk_at "ZZ24") => `(tactic| skip)
local macro_rules | `(tactic| walk_at "ZZ25") => `(tactic| skip)
local macro_rules | `(tactic| walk_at "ZZ26") => `(tactic| skip)
local macro_rules | `(tactic| walk_at "ZZ27") => `(tactic| skip)
local macro_rules | `(tactic| walk_at "ZZ28") => `(tactic| skip)
local macro_rules | `(tactic| walk_at "ZZ29") => `(tactic| skip)
theorem rs21 {M : Model} {A : Around} {E : Value → Shared → Prop} {s : Shared} {env : Env} {pos : Pos} {Q : Flow → Shared → Prop} (h : wpAny M A (exec (.Pass pos) env) Q E s) : wpAny M A (exec (.Pass pos) env) Q E s := by
  w_top off
  first | (walk1; fail) | exact h
end Mine
end
section
open PySem PySem.W PySem.Calls PyProof.Rows
set_option maxRecDepth 100000
set_option maxHeartbeats 4000000
set_option rowWalk.seconds 0
namespace Mine
local macro_rules | `(tactic| k_all) => `(tactic| assumption)
local macro_rules | `(tactic| walk_at "execs nil") => `(tactic| (k_here; refine wpAny_execs_nil ?_))
local macro_rules | `(tactic| walk_at "RUNSORT") => `(tactic| repeat' (first | ((fail_if_success (with_reducible show wpAny _ _ (call (.builtin "sorted") _) _ _ _)); first | (k_unfold; (try dsimp only)) | walk1 | (dsimp only; walk1) | (leave1; try dsimp only))))
theorem stageD {w : World} : InLaw w fun cn body sc cd => ∀ (mean : ExcName → Option Value) (mg mb : Str → Option Value) (gd : Option (List Code)) (outer : List Env) (A₀ : Around) (base h₀ : Heap) (L : Addr) (M : Str → Option Value) (s : Shared)
    (Q : Flow → Shared → Prop) (g d na aa ga : Addr) (t1 t2 t3 : Tok) (on : Obj) (nks : List (Int × Value)) (r kp : Addr) (vs ws : List Value) (ns : List Int) (c c' : Nat) (R : List (Addr × Obj)),
    Below A₀ base outer h₀ → Fr h₀ L s.heap (fun y => if y = Str.ofString "tree" then some (.ref g) else if y = Str.ofString "row" then some (.ref r) else if y = Str.ofString "kept" then some (.ref kp) else if y = Str.ofString "good" then some (.bool true) else M y) → (hd.heap_39 w.params).In h₀ →
    News h₀ L s.heap ((g, instObj 629 d) :: (d, dictOf (DEg w t1 t2 t3 ga na aa) 3) :: (na, on) :: (r, W.listOf (List.toArray vs) c) :: (kp, W.listOf (List.toArray ws) c') :: R) → Top TP LS mean mg mb h₀ →
    on.IsDictOf (PySem.intKind PP w) nks → (na == sysModules) = false → IntsAre vs ns → IntsAre ws ns → ns.length ≤ 11 → nks.map (·.1) = rk ns.length →
    (∀ h' tk, Fr h₀ L h' (fun y => if y = Str.ofString "tree" then some (.ref g) else if y = Str.ofString "row" then some (.ref r) else if y = Str.ofString "kept" then some (.ref kp) else if y = Str.ofString "good" then some (.bool true) else M y) →
      News h₀ L h' ((g, instObj 629 d) :: (d, dictOf (DEg w t1 t2 t3 ga na aa) 3) :: (na, on) :: (r, W.listOf (List.toArray vs) c) :: (kp, W.listOf (List.toArray ws) c') :: R) → Q .next { s with heap := h', toks := tk }) →
    wpAny (model PP w) (ktrTop 302 7 gd cn sc L 699 cd (cellsFrom (L + 1) sc.names []) outer) (execs ((body.drop 5).take 1) (envX cn sc L 699 cd (cellsFrom (L + 1) sc.names []))) Q Never s := by
  refine of_mk ?_
  k_fill
  intro _
  refine inLaw_of (by k_is) ?_
  intro mean mg mb gd outer A₀ base h₀ L M s Q g d na aa ga t1 t2 t3 on nks r kp vs ws ns c c' R B F X N T hon lna hi hj hlen hk h
  have hnl : nks.length = ns.length := by
    have := congrArg List.length hk
    simpa [rk] using this
  dsimp only [List.take, List.drop]
  walk_at "RUNSORT"
  refine sorted_tree (rest := (r, W.listOf (List.toArray vs) c) :: (kp, W.listOf (List.toArray ws) c') :: R) B ‹_› X ‹_› T hon lna (by omega) fun h1 tk1 vs1 ns1 e1 r1 F1 N1 i1 p1 o1 => ?_
  k_steps
  · rename_i h2 tk2 _ _ _ _ _ D2 vs2 c2 h3 tk3 F3 N3 i3 l3 e3
    exact h _ _ F3 fun p hp => N3 p (.tail _ (.tail _ hp))
  · rename_i h2 tk2 _ _ _ _ _ D2 vs2 c2 h3 tk3 F3 N3 i3 l3 e3
    refine absurd ?_ e3
    rw [hk] at p1
    have e4 : rangeKs 0 ((ns.length : Int) - 0).toNat = rk ns.length := by
      simp [rangeKs, rk]
    rw [e4]
    refine p1.eq_of_pairwise (fun x y _ _ h1 h2 => Int.le_antisymm h1 h2) o1 ?_
    unfold rk
    rw [List.pairwise_map]
    exact List.Pairwise.imp (fun h => by omega) List.pairwise_lt_range
end Mine
end
section
open PySem PySem.W PySem.Calls PyProof.Rows
set_option maxRecDepth 100000
namespace Mine
section
variable {M : Model} {A : Around} {E : Value → Shared → Prop} {s : Shared} {env : Env}
theorem wpG_spliced1 {x : Sem Value} {Q : List Value → Shared → Prop} (h : wpG M A x (fun v s₁ => Q [v] s₁) E s) : wpG M A (spliced [(false, x)]) Q E s := by
  rw [spliced]
  refine wpG_bind (wpG_mono h (fun v s₁ h₁ => ?_) fun _ _ x => x)
  simp only [Bool.false_eq_true, if_false]
  exact wpG_of (wpAny_bind (wpAny_pure (wpAny_bind (wpAny_holding (spliced_nil (wpAny_pure h₁))))))
theorem wpG_args1 {f : Value} {x : Sem Value} {Q : Args → Shared → Prop} (h : wpG M A x (fun v s₁ => Q ⟨[v], []⟩ s₁) E s) : wpG M A (evalArgs f true [(false, x)] []) Q E s := by
  unfold evalArgs
  show wpG M A (spliced [(false, x)] >>= _) Q E s
  refine wpG_bind (wpG_spliced1 (wpG_mono h (fun v s' h' => wpG_of ?_) fun _ _ x => x))
  refine wpAny_holding ?_
  exact wpAny_bind (wpAny_pure (wpAny_bind (wpAny_pure (wpAny_pure h'))))
/-- T(e), T a type -/
theorem wpG_Call_type {fx : Str} {np pos : Pos} {e : Expr} {T : String} {Q : Value → Shared → Prop}
    (h : wpAny M A (eval (.Name fx np) env) (fun f s₁ => f = .type T ∧ wpG M A (eval e env) (fun v s₂ => wpAny M A (call (.type T) [v]) Q E s₂) E s₁) E s)
    (he1 : eval (.Call (.Name fx np) [e] [] pos) env = (do callWith pos (← eval (.Name fx np) env) [] (backTo pos (starEach [e] env)) (backToKw pos (keywordEach [] env))) := by rfl)
    (he : starEach [e] env = [(false, eval e env)] := by rfl) : wpG M A (eval (.Call (.Name fx np) [e] [] pos) env) Q E s := by
  rw [he1, he]
  refine wpG_bind (wpG_of (wpAny_mono h (fun f s₁ h₁ => ?_) fun _ _ x => x))
  obtain ⟨rfl, h₁⟩ := h₁
  show wpG M A (callWith pos (.type T) [] [(false, eval e env)] []) Q E s₁
  unfold callWith
  refine wpG_bind (wpG_holding (wpG_args1 (wpG_mono h₁ (fun a s₁ h₁ => wpG_of (wpAny_bind (wpAny_standAt ?_))) fun _ _ x => x)))
  simp only [List.any_cons, List.any_nil, Bool.or_false]
  refine wpAny_bind (wpAny_pure ?_)
  exact wpAny_bind (wpAny_mono h₁ (fun r s₂ hr => wpAny_bind (wpAny_holding (wpAny_point (wpAny_pure hr)))) fun _ _ x => x)
end
section
variable {prog : Program} {w : World} {A : Around} {E : Value → Shared → Prop} {s : Shared} {env : Env}
theorem wp_execs_append {M : Model} {Γ : PySem.Ctx} {b : List Stmt} {Q : Flow → Pos → Shared → Prop} {E : Value → Pos → Shared → Prop} : ∀ {a : List Stmt} {p : Pos} {s : Shared},
    Sem.wp M Γ (execs a env) (fun f p' s' => match f with | .next => Sem.wp M Γ (execs b env) Q E p' s' | f => Q f p' s') E p s → Sem.wp M Γ (execs (a ++ b) env) Q E p s
  | [], p, s, h => by
    have e : execs [] env = pure .next := rfl
    rw [e, Sem.wp_pure'] at h
    exact h
  | st :: r, p, s, h => by
    rw [List.cons_append, execs_cons, Sem.wp_bind']
    rw [execs_cons, Sem.wp_bind'] at h
    refine Sem.wp_mono _ Γ _ (fun f p' s' q => ?_) (fun _ _ _ x => x) _ _ h
    cases f with
    | next => exact wp_execs_append (a := r) q
    | ret v => exact q
    | brk => exact q
    | cont => exact q
theorem wpG_execs_append {a b : List Stmt} {Q : Flow → Shared → Prop}
    (h : wpG (model prog w) A (execs a env) (fun f s' => match f with | .next => wpG (model prog w) A (execs b env) Q E s' | f => Q f s') E s) : wpG (model prog w) A (execs (a ++ b) env) Q E s := fun Γ p h1 h2 h3 => by
  refine wp_execs_append (Sem.wp_mono _ Γ _ (fun f p' s' q => ?_) (fun _ _ _ x => x) _ _ (h Γ p h1 h2 h3))
  cases f with
  | next => exact q Γ p' h1 h2 h3
  | ret v => exact q
  | brk => exact q
  | cont => exact q
end
end Mine
end
section
open PySem PySem.W PySem.Calls PyProof.Rows
namespace Mine
local macro_rules | `(tactic| walk_at "ZZ0") => `(tactic| skip)
local macro_rules | `(tactic| walk_at "ZZ1") => `(tactic| skip)
local macro_rules | `(tactic| walk_at "ZZ2") => `(tactic| skip)
local macro_rules | `(tactic| walk_at "ZZ3") => `(tactic| skip)
local macro_rules | `(tactic| walk_at "ZZ4") => `(tactic| skip)
local macro_rules | `(tactic| walk_at "ZZ5") => `(tactic| skip)
local macro_rules | `(tactic| walk_at "ZZ6") => `(tactic| skip)
local macro_rules | `(tactic| walk_at "ZZ7") => `(tactic| skip)
local macro_rules | `(tactic| walk_at "ZZ8") => `(tactic| skip)
local macro_rules | `(tactic| walk_at "ZZ9") => `(tactic| skip)
local macro_rules | `(tactic| walk_at "ZZ10") => `(tactic| skip)
local macro_rules | `(tactic| walk_at "ZZ11") => `(tactic| skip)
local macro_rules | `(tactic| walk_at "ZZ12") => `(tactic| skip)
local macro_rules | `(tactic| walk_at "ZZ13") => `(tactic| skip)
local macro_rules | `(tactic| walk_at "ZZ14") => `(tactic| skip)
local macro_rules | `(tactic| walk_at "ZZ15") => `(tactic| skip)
local macro_rules | `(tactic| walk_at "ZZ16") => `(tactic| skip)
local macro_rules | `(tactic| walk_at "ZZ17") => `(tactic| skip)
local macro_rules | `(tactic| walk_at "ZZ18") => `(tactic| skip)
local macro_rules | `(tactic| walk_at "ZZ19") => `(tactic| skip)
local macro_rules | `(tactic| walk_at "ZZ20") => `(tactic| skip)
local macro_rules | `(tactic| walk_at "ZZ21") => `(tactic| skip)
local macro_rules | `(tactic| walk_at "ZZ22") => `(tactic| skip)
local macro_rules | `(tactic| walk_at "ZZ23") => `(tactic| skip)
local macro_rules | `(tactic| walk_at "ZZ24") => `(tactic| skip)
local macro_rules | `(tactic| walk_at "ZZ25") => `(tactic| skip)
local macro_rules | `(tactic| walk_at "ZZ26") => `(tactic| skip)
local macro_rules | `(tactic| walk_at "ZZ27") => `(tactic| skip)
local macro_rules | `(tactic| walk_at "ZZ28") => `(tactic| skip)
local macro_rules | `(tactic| walk_at "ZZ29") => `(tactic| skip)
theorem rs22 {M : Model} {A : Around} {E : Value → Shared → Prop} {s : Shared} {env : Env} {pos : Pos} {Q : Flow → Shared → Prop} (h : wpAny M A (exec (.Pass pos) env) Q E s) : wpAny M A (exec (.Pass pos) env) Q E s := by
  w_top off
  first | (walk1; fail) | exact h
end Mine
end
section
open PySem PySem.W PySem.Calls PyProof.Rows
set_option maxRecDepth 100000
set_option maxHeartbeats 4000000
set_option rowWalk.seconds 0
namespace Mine
local macro_rules | `(tactic| k_all) => `(tactic| assumption)
local macro_rules | `(tactic| walk_at "execs nil") => `(tactic| (k_here; refine wpAny_execs_nil ?_))
theorem stageE {w : World} : InLaw w fun cn body sc cd => ∀ (mean : ExcName → Option Value) (mg mb : Str → Option Value) (gd : Option (List Code)) (outer : List Env) (A₀ : Around) (base h₀ : Heap) (L : Addr) (M : Str → Option Value) (s : Shared)
    (Q : Flow → Shared → Prop) (g d na aa ga : Addr) (t1 t2 t3 : Tok) (oa : Obj) (aks : List (Int × Value)) (adj : List (Int × List Int)) (ps : Array Value) (tl R : List (Addr × Obj)),
    Below A₀ base outer h₀ → Fr h₀ L s.heap (fun y => if y = Str.ofString "tree" then some (.ref g) else M y) → (hd.heap_39 w.params).In h₀ →
    News h₀ L s.heap ((g, instObj 629 d) :: (d, dictOf (DEg w t1 t2 t3 ga na aa) 3) :: (aa, oa) :: (230, tabObj ps) :: (tl ++ R)) → Top TP LS mean mg mb h₀ →
    TriplesOk ps.toList → oa.IsDictOf (PySem.intKind PP w) aks → (aa == sysModules) = false → Inn (prog := PP) w tl aks adj → adj.length ≤ 11 → Closed adj → (adj.map (·.1)).Nodup → (edgesFrom adj []).length ≤ 1000 →
    (d == sysModules) = false → g ≠ d → (∀ p ∈ (aa, oa) :: (230, tabObj ps) :: (tl ++ R), p.1 ≠ d) → (∀ p ∈ (g, instObj 629 d) :: (d, dictOf (DEg w t1 t2 t3 ga na aa) 3) :: (aa, oa) :: (tl ++ R), p.1 ≠ 230) →
    (∀ h' tk gs ps' S c acc tups ev t4, Fr h₀ L h' (fun y => if y = Str.ofString "edges" then some (.ref S) else if y = Str.ofString "tree" then some (.ref g) else M y) →
      News h₀ L h' ((S, listOf (List.toArray acc) c) :: (g, instObj 629 d) :: (d, dictS (DEe w t1 t2 t3 t4 ga na aa ev) 4) :: (aa, oa) :: (230, tabObj ps') :: (tups ++ (tl ++ R))) → TriplesOk ps'.toList → PairsAre acc tups (edgesFrom adj []) → GExt s.gens gs →
      (∀ p ∈ (g, instObj 629 d) :: (d, dictOf (DEg w t1 t2 t3 ga na aa) 3) :: (aa, oa) :: (230, tabObj ps) :: (tl ++ R), @LT.lt Nat _ p.1 S) → (∀ p ∈ tups, @LT.lt Nat _ S p.1) → Q .next { heap := h', gens := gs, drawn := s.drawn, toks := tk, os := s.os }) →
    wpG (model PP w) (ktrTop 302 7 gd cn sc L 699 cd (cellsFrom (L + 1) sc.names []) outer) (execs ((body.drop 6).take 1) (envX cn sc L 699 cd (cellsFrom (L + 1) sc.names []))) Q Never s := by
  refine of_mk ?_
  k_fill
  intro _
  refine inLaw_of (by k_is) ?_
  intro mean mg mb gd outer A₀ base h₀ L M s Q g d na aa ga t1 t2 t3 oa aks adj ps tl R B F X N T hps hoa laa hinn hlen hcl hnd hel hds hgd hrd h230 h
  dsimp only [List.take, List.drop]
  refine wpG_execs_cons (wpG_Assign_Name (wpG_Call_type (T := "list") ?_))
  k_steps
  refine wpG_Attribute_Name ?_
  k_steps
  refine wpG_mono (edges_get (rest := (aa, oa) :: (230, tabObj ps) :: (tl ++ R)) B ‹_› X ‹_› T hds hgd hrd fun h1 tk1 ev dv ta t4 F1 N1 l1 => ?_) (fun _ _ q => q) fun _ _ q => q
  refine list_edges (ta := ta) (dv := dv) (rest := (g, instObj 629 d) :: (d, dictS (DEe w t1 t2 t3 t4 ga na aa ev) 4) :: R) B F1 X (fun p hp => N1 p ?_) T hps hoa laa hinn hlen hcl hnd hel ?_ ?_ fun h2 tk2 gs2 ps2 S c2 acc tups F2 N2 p2 a2 g2 o2 u2 => ?_
  · simp only [List.mem_cons, List.mem_append] at hp ⊢
    rcases hp with h | h | h | h | h | h | h | h <;> simp only [h, true_or, or_true]
  · intro p hp
    have q : @LT.lt Nat _ 230 dv := allLt_mem l1.2.2.2 (230, tabObj ps) (by simp)
    simp only [List.mem_cons] at hp
    rcases hp with h | h | h | h
    · rw [h]; exact Nat.ne_of_gt (Nat.lt_trans q l1.1)
    · rw [h]; exact Nat.ne_of_gt q
    · exact h230 p (by simp only [List.mem_cons, List.mem_append, h, true_or, or_true])
    · exact h230 p (by simp only [List.mem_cons, List.mem_append, h, true_or, or_true])
  · intro p hp
    simp only [List.mem_cons] at hp
    rcases hp with h | h | h
    · exact h230 p (by simp only [List.mem_cons, List.mem_append, h, true_or, or_true])
    · rw [h]; exact h230 (d, dictOf (DEg w t1 t2 t3 ga na aa) 3) (by simp)
    · exact h230 p (by simp only [List.mem_cons, List.mem_append, h, true_or, or_true])
  · refine wpG_of ?_
    have N3 : News h₀ L h2 ((S, listOf (List.toArray acc) c2) :: (g, instObj 629 d) :: (d, dictS (DEe w t1 t2 t3 t4 ga na aa ev) 4) :: (aa, oa) :: (230, tabObj ps2) :: (tups ++ (tl ++ R))) := fun p hp => N2 p (by
      simp only [List.mem_cons, List.mem_append] at hp ⊢
      rcases hp with h | h | h | h | h | h | h | h <;> simp only [h, true_or, or_true])
    clear N2 N1 F1
    k_steps
    rename_i h3 F3 N4
    refine wpG_of (wpAny_execs_nil ?_)
    refine h h3 _ gs2 ps2 S c2 acc tups ev t4 F3 N4 p2 a2 g2 (fun p hp => ?_) u2
    simp only [List.mem_cons, List.mem_append] at hp
    rcases hp with h | h | h | h | h | h
    · rw [h]; exact o2 (g, instObj 629 d) (by simp)
    · rw [h]; exact o2 (d, dictS (DEe w t1 t2 t3 t4 ga na aa ev) 4) (by simp)
    · rw [h]; exact o2 (aa, oa) (by simp)
    · rw [h]; exact o2 (230, tabObj ps) (by simp)
    · exact o2 p (by simp only [List.mem_cons, List.mem_append, h, true_or, or_true])
    · exact o2 p (by simp only [List.mem_cons, List.mem_append, h, true_or, or_true])
end Mine
end
section
open PySem PySem.W PySem.Calls PyProof.Rows
set_option maxRecDepth 100000
namespace Mine
section
variable {prog : Program} {w : World} {A : Around} {E : Value → Shared → Prop} {s : Shared} {h₀ : Heap} {L d v : Addr} {m : Str → Option Value} {news : List (Addr × Obj)} {Q : Value → Shared → Prop} {o : Obj}
/-- sorted over the values of a dict of ints -/
theorem sorted_vals {kvs : List (Int × Value)} {ns : List Int} (hh : A.handled = none) (F : Fr h₀ L s.heap m) (N : News h₀ L s.heap news) (hp : (d, o) ∈ news) (hd : o.IsDictOf (PySem.intKind prog w) kvs)
    (hv : (v, { cls := .type "dict_values", data := .fields #[.ref d] }) ∈ news) (hi : IntsAre (kvs.map (·.2)) ns) (h64 : ns.length < 64)
    (h : ∀ D vs' ns' c h' tk, Fr h₀ L h' m → News h₀ L h' ((D, W.listOf (List.toArray vs') c) :: news) → (∀ q ∈ news, q.1 < D) → IntsAre vs' ns' → ns'.Perm ns → ns'.Pairwise (· ≤ ·) → Q (.ref D) { s with heap := h', toks := tk }) :
    wpAny (model prog w) A (call (.builtin "sorted") [.ref v]) Q E s := by
  obtain ⟨ep, hat⟩ := (kda_dict N hp hd).dictAt
  have hkl : kvs.length = ns.length := by rw [← hi.length, List.length_map]
  refine kdu_sorted (kdl_values (knd := PySem.intKind prog w) (kvs := kvs) (ep := ep)) hh F N ⟨⟨_, (N _ hv).1, rfl, rfl⟩, hat⟩ (kdl_size (by omega)) fun B h' tk vs F' N' l1 hl hv => ?_
  have hvs : vs = kvs.map (·.2) := kdl_vals_eq vs hl hv
  subst hvs
  have hoL : h'.get? B = some (seqObj "list" (kvs.map (·.2)).toArray 0) := (N' _ (.head _)).1
  refine wpAny_call_entry (s := { s with heap := h', toks := tk }) slot_list_sort ⟨_, hoL, rfl⟩ entry_list_sort (list_sort_tree hoL hi (by rw [List.length_map]; omega) fun out ns' a1 a2 a3 => ⟨_, rfl, ?_⟩) (args_list_sort _)
  obtain ⟨e, he⟩ := sortedHeap_at (out := out) hoL
  have old : ∀ b o, b ≠ B → h'.get? b = some o → (sortedHeap h' B (kvs.map (·.2)) out).get? b = some o := fun b o hb q => by
    rw [sortedHeap_old hb (Heap.lt_size q)]
    exact q
  have hBL := (N' _ (.head _)).2.1
  have hBg := (N' _ (.head _)).2.2
  refine h B out.toList ns' e _ tk ⟨F'.ns.at' fun o q => old _ o (Ne.symm hBL) q, fun b o q => old b o (fun c => by rw [c, hBg] at q; cases q) (F'.keep b o q), F'.above⟩ (fun p hp => ?_) l1 a1 a2 a3
  rcases List.mem_cons.mp hp with rfl | hp
  · exact ⟨by rw [show out.toList.toArray = out by simp]; exact he, hBL, hBg⟩
  · exact ⟨old _ _ (Nat.ne_of_lt (l1 p hp)) (N' p (.tail _ hp)).1, (N' p (.tail _ hp)).2⟩
end
theorem st_old (kvs : List (Int × Value)) {k : Int} (v : Value) (h : k ∈ kvs.map (·.1)) : stored kvs k v = kvs.map fun p => if p.1 = k then (p.1, v) else p := by
  have ha : (kvs.any fun p => decide (p.1 = k)) = true := by
    obtain ⟨p, hp, e⟩ := List.mem_map.mp h
    exact List.any_eq_true.mpr ⟨p, hp, by simp [e]⟩
  unfold stored
  simp only [ha, if_true]
theorem st_old_keys {kvs : List (Int × Value)} {k : Int} (v : Value) (h : k ∈ kvs.map (·.1)) : (stored kvs k v).map (·.1) = kvs.map (·.1) := by
  rw [st_old kvs v h, List.map_map]
  apply List.map_congr_left
  intro p _
  simp only [Function.comp]
  split <;> rfl
theorem va_old_ne (kvs : List (Int × Value)) {k k' : Int} (v : Value) (h : k ∈ kvs.map (·.1)) (hne : k' ≠ k) : valueAt (stored kvs k v) k' = valueAt kvs k' := by
  rw [st_old kvs v h]
  clear h
  induction kvs with
  | nil => rfl
  | cons p r ih =>
    rw [List.map_cons, va_cons, va_cons, ih]
    by_cases e : p.1 = k
    · simp [e, Ne.symm hne]
    · simp [e]
theorem va_old_self (kvs : List (Int × Value)) {k : Int} (v : Value) (h : k ∈ kvs.map (·.1)) : valueAt (stored kvs k v) k = some v := by
  rw [st_old kvs v h]
  induction kvs with
  | nil => simp at h
  | cons p r ih =>
    rw [List.map_cons, va_cons]
    by_cases e : p.1 = k
    · simp [e]
    · rw [List.map_cons, List.mem_cons] at h
      rcases h with h | h
      · exact absurd h.symm e
      · simp [e, ih h]
/-- the counts: at each of the nodes 0 .. n - 1 the number f -/
def CountsAre (kvs : List (Int × Value)) (n : Nat) (f : Int → Int) : Prop := kvs.map (·.1) = (List.range n).map (fun i : Nat => (i : Int)) ∧ ∀ x : Int, 0 ≤ x → x < n → ∃ t, valueAt kvs x = some (.int (f x) t)
def bump (f : Int → Int) (x : Int) : Int → Int := fun y => if y = x then f y + 1 else f y
theorem keys_mem {kvs : List (Int × Value)} {n : Nat} (h : kvs.map (·.1) = (List.range n).map (fun i : Nat => (i : Int))) {x : Int} (h0 : 0 ≤ x) (h1 : x < n) : x ∈ kvs.map (·.1) := by
  rw [h, List.mem_map]
  exact ⟨x.toNat, List.mem_range.mpr (by omega), by omega⟩
theorem CountsAre.set {kvs : List (Int × Value)} {n : Nat} {f : Int → Int} (h : CountsAre kvs n f) {x : Int} (h0 : 0 ≤ x) (h1 : x < n) (t : Tok) : CountsAre (stored kvs x (.int (f x + 1) t)) n (bump f x) := by
  have hm := keys_mem h.1 h0 h1
  refine ⟨(st_old_keys _ hm).trans h.1, fun y y0 y1 => ?_⟩
  by_cases e : y = x
  · subst e
    exact ⟨t, by rw [va_old_self kvs _ hm]; simp [bump]⟩
  · rw [va_old_ne kvs _ hm e]
    simp only [bump, if_neg e]
    exact h.2 y y0 y1
def countAll (f : Int → Int) : List (Int × Int) → Int → Int
  | [] => f
  | e :: r => countAll (bump (bump f e.1) e.2) r
theorem nodup_rg (n : Nat) : ((List.range n).map (fun i : Nat => (i : Int))).Nodup := by
  rw [List.Nodup, List.pairwise_map]
  exact List.Pairwise.imp (fun h => by omega) List.pairwise_lt_range
theorem vals_ints {kvs : List (Int × Value)} : ∀ {ks : List Int} {f : Int → Int}, kvs.map (·.1) = ks → (∀ p ∈ kvs, ∃ t, p.2 = .int (f p.1) t) → IntsAre (kvs.map (·.2)) (ks.map f) := by
  induction kvs with
  | nil => intro ks f h _; rw [← h]; exact .nil
  | cons p r ih =>
    intro ks f h hv
    obtain ⟨t, ht⟩ := hv p (.head _)
    rw [← h, List.map_cons, List.map_cons, List.map_cons, ht]
    exact .cons _ _ (ih rfl fun q hq => hv q (.tail _ hq))
theorem va_mem {kvs : List (Int × Value)} (hn : (kvs.map (·.1)).Nodup) {p : Int × Value} (h : p ∈ kvs) : valueAt kvs p.1 = some p.2 := by
  induction kvs with
  | nil => cases h
  | cons q r ih =>
    rw [List.map_cons, List.nodup_cons] at hn
    rw [va_cons]
    rcases List.mem_cons.mp h with rfl | h
    · rw [if_pos rfl]
    · rw [if_neg (fun e => hn.1 (by rw [e]; exact List.mem_map.mpr ⟨_, h, rfl⟩))]
      exact ih hn.2 h
theorem CountsAre.ints {kvs : List (Int × Value)} {n : Nat} {f : Int → Int} (h : CountsAre kvs n f) : IntsAre (kvs.map (·.2)) (((List.range n).map (fun i : Nat => (i : Int))).map f) := by
  refine vals_ints h.1 fun p hp => ?_
  have hn : (kvs.map (·.1)).Nodup := by rw [h.1]; exact nodup_rg n
  have hm : p.1 ∈ (List.range n).map (fun i : Nat => (i : Int)) := by rw [← h.1]; exact List.mem_map.mpr ⟨_, hp, rfl⟩
  obtain ⟨i, hi, e⟩ := List.mem_map.mp hm
  have := List.mem_range.mp hi
  obtain ⟨t, ht⟩ := h.2 p.1 (by omega) (by omega)
  rw [va_mem hn hp] at ht
  exact ⟨t, Option.some.inj ht⟩
theorem perm_sorted_eq {a b : List Int} (h : a.Perm b) (ha : a.Pairwise (· ≤ ·)) (hb : b.Pairwise (· ≤ ·)) : a = b := h.eq_of_pairwise (fun x y _ _ h1 h2 => Int.le_antisymm h1 h2) ha hb
end Mine
end
section
open PySem PySem.W PySem.Calls PyProof.Rows
namespace Mine
local macro_rules | `(tactic| walk_at "ZZ0") => `(tactic| skip)
local macro_rules | `(tactic| walk_at "ZZ1") => `(tactic| skip)
local macro_rules | `(tactic| walk_at "ZZ2") => `(tactic| skip)
local macro_rules | `(tactic| walk_at "ZZ3") => `(tactic| skip)
local macro_rules | `(tactic| walk_at "ZZ4") => `(tactic| skip)
local macro_rules | `(tactic| walk_at "ZZ5") => `(tactic| skip)
local macro_rules | `(tactic| walk_at "ZZ6") => `(tactic| skip)
local macro_rules | `(tactic| walk_at "ZZ7") => `(tactic| skip)
local macro_rules | `(tactic| walk_at "ZZ8") => `(tactic| skip)
local macro_rules | `(tactic| walk_at "ZZ9") => `(tactic| skip)
local macro_rules | `(tactic| walk_at "ZZ10") => `(tactic| skip)
local macro_rules | `(tactic| walk_at "ZZ11") => `(tactic| skip)
local macro_rules | `(tactic| walk_at "ZZ12") => `(tactic| skip)
local macro_rules | `(tactic| walk_at "ZZ13") => `(tactic| skip)
local macro_rules | `(tactic| walk_at "ZZ14") => `(tactic| skip)
local macro_rules | `(tactic| walk_at "ZZ15") => `(tactic| skip)
local macro_rules | `(tactic| walk_at "ZZ16") => `(tactic| skip)
local macro_rules | `(tactic| walk_at "ZZ17") => `(tactic| skip)
local macro_rules | `(tactic| walk_at "ZZ18") => `(tactic| skip)
local macro_rules | `(tactic| walk_at "ZZ19") => `(tactic| skip)
local macro_rules | `(tactic| walk_at "ZZ20") => `(tactic| skip)
local macro_rules | `(tactic| walk_at "ZZ21") => `(tactic| skip)
local macro_rules | `(tactic| walk_at "ZZ22") => `(tactic| skip)
local macro_rules | `(tactic| walk_at "ZZ23") => `(tactic| skip)
local macro_rules | `(tactic| walk_at "ZZ24") => `(tactic| skip)
local macro_rules | `(tactic| walk_at "ZZ25") => `(tactic| skip)
local macro_rules | `(tactic| walk_at "ZZ26") => `(tactic| skip)
local macro_rules | `(tactic| walk_at "ZZ27") => `(tactic| skip)
local macro_rules | `(tactic| walk_at "ZZ28") => `(tactic| skip)
local macro_rules | `(tactic| walk_at "ZZ29") => `(tactic| skip)
theorem rs23 {M : Model} {A : Around} {E : Value → Shared → Prop} {s : Shared} {env : Env} {pos : Pos} {Q : Flow → Shared → Prop} (h : wpAny M A (exec (.Pass pos) env) Q E s) : wpAny M A (exec (.Pass pos) env) Q E s := by
  w_top off
  first | (walk1; fail) | exact h
end Mine
end
section
open PySem PySem.W PySem.Calls PyProof.Rows
set_option maxRecDepth 100000
set_option maxHeartbeats 4000000
set_option rowWalk.seconds 0
namespace Mine
local macro_rules | `(tactic| k_all) => `(tactic| assumption)
local macro_rules | `(tactic| walk_at "execs nil") => `(tactic| (k_here; refine wpAny_execs_nil ?_))
local macro_rules | `(tactic| walk_at "RUNIT") => `(tactic| repeat' (first | ((fail_if_success (with_reducible show wpAny _ _ (pyIter _) _ _ _)); first | (k_unfold; (try dsimp only)) | walk1 | (dsimp only; walk1) | (leave1; try dsimp only))))
def isZero (v : Value) : Prop := ∃ t, v = .int 0 t
theorem dcomp_at {prog : Program} {w : World} {A : Around} {E : Value → Shared → Prop} {s : Shared} {h₀ : Heap} {m : Str → Option Value} {env : Env} {vx iter : Expr} {x y : Str} {px py pk : Pos} {scope : Scope} {cl : List (Str × Addr)} {pos spos : Pos} {Q : Flow → Shared → Prop} (_F : Fr h₀ env.locals s.heap m)
    (FV : Value → Prop) (hsw : swapsWith (.DictComp (.Name x pk) vx [⟨.Name x px, iter, [], 0⟩] scope pos) (some (.Name y py)) spos.line env = pure true)
    (hh : A.handled = none) (hclos : closureFor scope env = pure cl) (hcell : ∀ z ∈ scope.names, z.2 ≠ .cell) (hkind : scope.kind = .function)
    (hnames : ∀ z ∈ scope.names, z.2 = .local → scope.names.lookup z.1 = some .local) (hx : scope.names.lookup x = some .local) (hdx : (x == ("__debug__" : Str)) = false)
    (hy : env.kindOf y = some .local) (hp : (env.scope.kind == .class || (env.scope.kind == .module && env.locals != env.globals)) = false)
    (hv : ∀ (cenv : Env) (s : Shared) (E' : Value → Shared → Prop), wpAny (model prog w) A (eval vx cenv) (fun y s₃ => FV y ∧ Keeps s s₃) E' s)
    (h : wpAny (model prog w) A (eval iter env) (fun xv s₁ => wpAny (model prog w) A (pyIter xv) (DictAtC prog w A h₀ env y FV Q) E s₁) E s)
    (hs : ∀ x, foldedSetIterable iter env x = pure x) :
    wpAny (model prog w) A (exec (.Assign [.Name y py] (.DictComp (.Name x pk) vx [⟨.Name x px, iter, [], 0⟩] scope pos) spos) env) Q E s := dcomp FV hsw hh hclos hcell hkind hnames hx hdx hy hp hv h hs
local macro_rules | `(tactic| walk_at "exec Assign cons DictComp") => `(tactic| (k_here; k_dflt (refine' dcomp_at ?hF isZero (cl := []) ?hsw ?hh ?hclos ?hcell ?hkind ?hnames ?hx ?hdx ?hy ?hp ?hv ?_ ?hs; (case hF => k_asm); (case hsw => with_unfolding_all rfl); (case hh => with_unfolding_all rfl); (case hclos => with_unfolding_all rfl); (case hcell => decide); (case hkind => rfl); (case hnames => decide); (case hx => rfl); (case hdx => decide); (case hy => rfl); (case hp => rfl); (case hv => (intro _ s _; exact wpAny_Constant_int ⟨⟨_, rfl⟩, s.heap, _, rfl, fun _ _ e => e⟩)); (case hs => intro _; with_unfolding_all rfl))))
theorem stageF {w : World} : InLaw w fun cn body sc cd => ∀ (mean : ExcName → Option Value) (mg mb : Str → Option Value) (gd : Option (List Code)) (outer : List Env) (A₀ : Around) (base h₀ : Heap) (L : Addr) (M : Str → Option Value) (s : Shared)
    (Q : Flow → Shared → Prop) (r : Addr) (vs : List Value) (ns : List Int) (c : Nat) (R : List (Addr × Obj)),
    Below A₀ base outer h₀ → Fr h₀ L s.heap (fun y => if y = Str.ofString "row" then some (.ref r) else M y) → (hd.heap_39 w.params).In h₀ → News h₀ L s.heap ((r, W.listOf (List.toArray vs) c) :: R) → Top TP LS mean mg mb h₀ →
    IntsAre vs ns → ns.length ≤ 11 →
    (∀ h' tk D oD kvs, Fr h₀ L h' (fun y => if y = Str.ofString "degrees" then some (.ref D) else if y = Str.ofString "row" then some (.ref r) else M y) → News h₀ L h' ((D, oD) :: (r, W.listOf (List.toArray vs) c) :: R) → oD.IsDictOf (PySem.intKind PP w) kvs → CountsAre kvs ns.length (fun _ => 0) →
      (∀ p ∈ (r, W.listOf (List.toArray vs) c) :: R, @LT.lt Nat _ p.1 D) → (D == sysModules) = false → Q .next { s with heap := h', toks := tk }) →
    wpAny (model PP w) (ktrTop 302 7 gd cn sc L 699 cd (cellsFrom (L + 1) sc.names []) outer) (execs ((body.drop 7).take 1) (envX cn sc L 699 cd (cellsFrom (L + 1) sc.names []))) Q Never s := by
  refine of_mk ?_
  k_fill
  intro _
  refine inLaw_of (by k_is) ?_
  intro mean mg mb gd outer A₀ base h₀ L M s Q r vs ns c R B F X N T hi hlen h
  dsimp only [List.take, List.drop]
  walk_at "RUNIT"
  rename_i h8 tk8 tr8 ur8 vr8 hR8 F8 N8 hk8
  refine iter_R F8 N8 hR8 (by omega) (by omega) (by omega) (by omega) ?_
  intro I hI hst hLI hI0 hnI hIn hkI FI NI
  have eN : ((ns.length : Int) - 0).toNat = ns.length := by omega
  rw [eN] at hst
  refine ⟨I, [I], [I], ns.length, fun i => 0 + (i : Int) * 1, _, _, (r, W.listOf (List.toArray vs) c) :: R, rfl, Walks.range rfl I 0 1 ns.length, by simpa using hst, fun b hb => ?_, by rw [sizeLine_eq]; omega, FI, NI, fun p hp => ?_, fun b hb => ?_, ?_, fun D oD kvs h2 tk2 F2 N2 hd2 hk2 hv2 hDn hDne hDs => ?_⟩
  · rw [List.mem_singleton.mp hb]
    exact Heap.lt_size hst
  · rw [List.mem_singleton]; exact hnI p hp
  · rw [List.mem_singleton.mp hb]; exact ⟨hI0, Ne.symm hLI⟩
  · rw [List.Nodup, List.pairwise_map]
    exact List.Pairwise.imp (fun h => by omega) List.pairwise_lt_range
  have hk3 : kvs.map (·.1) = (List.range ns.length).map (fun i : Nat => (i : Int)) := by
    rw [hk2]
    exact List.map_congr_left fun i _ => by omega
  have hc : CountsAre kvs ns.length (fun _ => 0) := ⟨hk3, fun x h0 h1 => by
    obtain ⟨p, hp, rfl⟩ := List.mem_map.mp (keys_mem hk3 h0 h1)
    obtain ⟨t, ht⟩ := hv2 p hp
    exact ⟨t, by rw [va_mem (by rw [hk3]; exact nodup_rg _) hp, ht]⟩⟩
  have hDsys : (D == sysModules) = false := not_sys T FI.keep (Nat.le_of_eq hDs.symm)
  k_steps
  exact h h2 _ D oD kvs F2 N2 hd2 hc hDne hDsys
end Mine
end
section
open PySem PySem.W PySem.Calls PyProof.Rows
namespace Mine
local macro_rules | `(tactic| walk_at "ZZ0") => `(tactic| skip)
local macro_rules | `(tactic| walk_at "ZZ1") => `(tactic| skip)
local macro_rules | `(tactic| walk_at "ZZ2") => `(tactic| skip)
local macro_rules | `(tactic| walk_at "ZZ3") => `(tactic| skip)
local macro_rules | `(tactic| walk_at "ZZ4") => `(tactic| skip)
local macro_rules | `(tactic| walk_at "ZZ5") => `(tactic| skip)
local macro_rules | `(tactic| walk_at "ZZ6") => `(tactic| skip)
local macro_rules | `(tactic| walk_at "ZZ7") => `(tactic| skip)
local macro_rules | `(tactic| walk_at "ZZ8") => `(tactic| skip)
local macro_rules | `(tactic| walk_at "ZZ9") => `(tactic| skip)
local macro_rules | `(tactic| walk_at "ZZ10") => `(tactic| skip)
local macro_rules | `(tactic| walk_at "ZZ11") => `(tactic| skip)
local macro_rules | `(tactic| walk_at "ZZ12") => `(tactic| skip)
local macro_rules | `(tactic| walk_at "ZZ13") => `(tactic| skip)
local macro_rules | `(tactic| walk_at "ZZ14") => `(tactic| skip)
local macro_rules | `(tactic| walk_at "ZZ15") => `(tactic| skip)
local macro_rules | `(tactic| walk_at "ZZ16") => `(tactic| skip)
local macro_rules | `(tactic| walk_at "ZZ17") => `(tactic| skip)
local macro_rules | `(tactic| walk_at "ZZ18") => `(tactic| skip)
local macro_rules | `(tactic| walk_at "ZZ19") => `(tactic| skip)
local macro_rules | `(tactic| walk_at "ZZ20") => `(tactic| skip)
local macro_rules | `(tactic| walk_at "ZZ21") => `(tactic| skip)
local macro_rules | `(tactic| walk_at "ZZ22") => `(tactic| skip)
local macro_rules | `(tactic| walk_at "ZZ23") => `(tactic| skip)
local macro_rules | `(tactic| walk_at "ZZ24") => `(tactic| skip)
local macro_rules | `(tactic| walk_at "ZZ25") => `(tactic| skip)
local macro_rules | `(tactic| walk_at "ZZ26") => `(tactic| skip)
local macro_rules | `(tactic| walk_at "ZZ27") => `(tactic| skip)
local macro_rules | `(tactic| walk_at "ZZ28") => `(tactic| skip)
local macro_rules | `(tactic| walk_at "ZZ29") => `(tactic| skip)
theorem rs24 {M : Model} {A : Around} {E : Value → Shared → Prop} {s : Shared} {env : Env} {pos : Pos} {Q : Flow → Shared → Prop} (h : wpAny M A (exec (.Pass pos) env) Q E s) : wpAny M A (exec (.Pass pos) env) Q E s := by
  w_top off
  first | (walk1; fail) | exact h
end Mine
end
section
open PySem PySem.W PySem.Calls PyProof.Rows
set_option maxRecDepth 100000
set_option maxHeartbeats 4000000
set_option rowWalk.seconds 0
namespace Mine
local macro_rules | `(tactic| k_all) => `(tactic| assumption)
local macro_rules | `(tactic| walk_at "execs nil") => `(tactic| (k_here; refine wpAny_execs_nil ?_))
local macro_rules | `(tactic| walk_at "RUNFOR") => `(tactic| repeat' (first | ((fail_if_success (with_reducible show wpAny _ _ (exec (Stmt.For _ _ _ _ _) _) _ _ _)); (fail_if_success (with_reducible show wpAny _ _ (pyIter _) _ _ _)); first | (k_unfold; (try dsimp only)) | walk1 | (dsimp only; walk1) | (leave1; try dsimp only))))
local macro_rules | `(tactic| walk_at "VALEN") => `(tactic| first | assumption | (rw [← List.length_map (f := Prod.fst), st_old_keys _ (by assumption), List.length_map]; assumption))
local macro_rules | `(tactic| walk_at "setItem ref int") => `(tactic| (k_here; k_dflt (refine' kda_set (knd := PySem.intKind _ _) ?F ?N ?U ?d (intKind_is _ _ _ _) ?z ?_; (case F => k_asm); (case N => k_asm); (case U => k_updF); (case d => k_asm); (case z => walk_at "VALEN")); intro h' o' F' N' hd'; (try dsimp only at N')))
local macro_rules | `(tactic| walk_at "subscriptTail") => `(tactic| (k_here; k_dflt (refine kdt_tail (knd := PySem.intKind _ _) (by k_asm) (by k_mem) (by k_asm) ?_)))
local macro_rules | `(tactic| walk_at "getItem ref int") => `(tactic| (k_here; k_dflt (refine kdt_getItem (knd := PySem.intKind _ _) (by k_asm) (by k_mem) (by k_asm) (intKind_is _ _ _ _) (by assumption) ?_)))
theorem countAll_snoc : ∀ (l : List (Int × Int)) (f : Int → Int) (e : Int × Int), countAll f (l ++ [e]) = bump (bump (countAll f l) e.1) e.2
  | [], _, _ => rfl
  | a :: r, f, e => countAll_snoc r _ e
def GInv (w : World) (h₀ : Heap) (L S D I : Addr) (M : Str → Option Value) (R : List (Addr × Obj)) (acc : List Value) (cS n : Nat) (es : List (Int × Int)) (s₀ : Shared) (k : Nat) (s : Shared) : Prop :=
  ∃ (i : Nat) (kvs : List (Int × Value)) (oD ocv oI : Obj) (v u : Option Value),
    Fr h₀ L s.heap (fun y => if y = Str.ofString "u" then u else M y) ∧ News h₀ L s.heap ((I, oI) :: (L + 1, ocv) :: (D, oD) :: (S, listOf (List.toArray acc) cS) :: R) ∧ ocv.data = .cell v ∧ oI.cls = .type "list_iterator" ∧ oI.data = .fields #[.ref S, .int i 0] ∧
    oD.IsDictOf (PySem.intKind PP w) kvs ∧ CountsAre kvs n (countAll (fun _ => 0) (es.take i)) ∧ i ≤ es.length ∧ k = es.length + 1 - i ∧ s.gens = s₀.gens ∧ s.drawn = s₀.drawn ∧ s.os = s₀.os
theorem fr_pick2e {g h : Heap} {L : Addr} {m : Str → Option Value} {x x2 : Str} {v v2 : Value} (F : Fr g L h m) (e : m x = some v) (e2 : m x2 = some v2) : ∃ M : Str → Option Value, M = m ∧ Fr g L h (fun y => if y = x then some v else if y = x2 then some v2 else M y) := by
  refine ⟨m, rfl, ?_⟩
  have : (fun y => if y = x then some v else if y = x2 then some v2 else m y) = m := by
    funext y
    by_cases h1 : y = x
    · rw [if_pos h1, h1, e]
    · rw [if_neg h1]
      by_cases h2 : y = x2
      · rw [if_pos h2, h2, e2]
      · rw [if_neg h2]
  rw [this]
  exact F
theorem map_u2 {M : Str → Option Value} {u5 : Option Value} {vu vD vS : Value} (eD : M (Str.ofString "degrees") = some vD) (eS : M (Str.ofString "edges") = some vS) :
    (fun y => if y = Str.ofString "u" then some vu else if y = Str.ofString "degrees" then some vD else if y = Str.ofString "edges" then some vS else (fun y => if y = Str.ofString "u" then u5 else M y) y) = fun y => if y = Str.ofString "u" then some vu else M y := by
  funext y
  by_cases h1 : y = Str.ofString "u"
  · simp only [if_pos h1]
  · simp only [if_neg h1]
    by_cases h2 : y = Str.ofString "degrees"
    · rw [if_pos h2, h2, eD]
    · rw [if_neg h2]
      by_cases h3 : y = Str.ofString "edges"
      · rw [if_pos h3, h3, eS]
      · rw [if_neg h3]
theorem map_u {M : Str → Option Value} : M = fun y => if y = Str.ofString "u" then M (Str.ofString "u") else M y := by
  funext y
  split
  · rename_i q; rw [q]
  · rfl
theorem stageG {w : World} : InLaw w fun cn body sc cd => ∀ (mean : ExcName → Option Value) (mg mb : Str → Option Value) (gd : Option (List Code)) (outer : List Env) (A₀ : Around) (base h₀ : Heap) (L : Addr) (M : Str → Option Value) (s : Shared)
    (Q : Flow → Shared → Prop) (S D : Addr) (acc : List Value) (cS n : Nat) (oD ocv : Obj) (v0 : Option Value) (kvs : List (Int × Value)) (es : List (Int × Int)) (tups R : List (Addr × Obj)),
    Below A₀ base outer h₀ → Fr h₀ L s.heap M → M (Str.ofString "degrees") = some (.ref D) → M (Str.ofString "edges") = some (.ref S) → (hd.heap_39 w.params).In h₀ → News h₀ L s.heap ((L + 1, ocv) :: (D, oD) :: (S, listOf (List.toArray acc) cS) :: R) → Top TP LS mean mg mb h₀ →
    ocv.data = .cell v0 → oD.IsDictOf (PySem.intKind PP w) kvs → CountsAre kvs n (fun _ => 0) → n ≤ 11 → PairsAre acc tups es → (∀ p ∈ tups, p ∈ R) → es.length ≤ 11 → (∀ e ∈ es, 0 ≤ e.1 ∧ e.1 < n ∧ 0 ≤ e.2 ∧ e.2 < n ∧ e.1 ≠ e.2) →
    @LT.lt Nat _ (L + 1) D → @LT.lt Nat _ (L + 1) S → @LT.lt Nat _ S D → (∀ p ∈ R, p.1 ≠ L + 1 ∧ @LT.lt Nat _ p.1 D) →
    (∀ s' oD' ocv' v' kvs' u', s'.gens = s.gens → s'.drawn = s.drawn → s'.os = s.os → Fr h₀ L s'.heap (fun y => if y = Str.ofString "u" then u' else M y) → News h₀ L s'.heap ((L + 1, ocv') :: (D, oD') :: (S, listOf (List.toArray acc) cS) :: R) → ocv'.data = .cell v' →
      oD'.IsDictOf (PySem.intKind PP w) kvs' → CountsAre kvs' n (countAll (fun _ => 0) es) → Q .next s') →
    wpAny (model PP w) (ktrTop 302 7 gd cn sc L 699 cd (cellsFrom (L + 1) sc.names []) outer) (execs ((body.drop 8).take 1) (envX cn sc L 699 cd (cellsFrom (L + 1) sc.names []))) Q Never s := by
  refine of_mk ?_
  k_fill
  intro _
  refine inLaw_of (by k_is) ?_
  intro mean mg mb gd outer A₀ base h₀ L M s Q S D acc cS n oD ocv v0 kvs es tups R B F eD eS X N T hv0 hd0 hc0 hn hpa htm hel hE hLD hLS hSD hR h
  obtain ⟨M2, F2⟩ := fr_pick2r F eD eS
  dsimp only [List.take, List.drop]
  walk_at "RUNFOR"
  refine For_I ?_
  walk_at "RUNFOR"
  have hSl : s.heap.IsList S acc.toArray := ⟨_, (N (S, _) (.tail _ (.tail _ (.head _)))).1, rfl, cS, rfl⟩
  refine wpAny_pyIter_list hSl ?_
  have hltI : ∀ p ∈ (L + 1, ocv) :: (D, oD) :: (S, listOf (List.toArray acc) cS) :: R, p.1 < s.heap.objs.size := fun p hp => Heap.lt_size (N p hp).1
  have hgI : h₀.get? s.heap.objs.size = none := by
    cases e : h₀.get? s.heap.objs.size with
    | none => rfl
    | some o => exact absurd (Heap.lt_size (F.keep _ _ e)) (Nat.lt_irrefl _)
  have hLI : L < s.heap.objs.size := F.ns.lt
  have hlen := hpa.len
  refine ⟨GInv w h₀ L S D s.heap.objs.size M R acc cS n es s, es.length + 1, ⟨0, kvs, oD, ocv, { cls := .type "list_iterator", data := .fields #[.ref S, .int 0 0] }, v0, M (Str.ofString "u"), map_u ▸ F.push _, fun p hp => ?_, hv0, rfl, rfl, hd0, hc0, Nat.zero_le _, rfl, rfl, rfl, rfl⟩, ?_⟩
  · rcases List.mem_cons.mp hp with rfl | hp
    · exact ⟨Heap.get?_push_size _ rfl, Ne.symm (Nat.ne_of_lt hLI), hgI⟩
    · exact ⟨Heap.get?_push_of_some _ (N p hp).1, (N p hp).2⟩
  clear F2
  rintro k s' ⟨i, kvs5, oD5, ocv5, oI, v5, u5, F5, N5, hv5, hI1, hI2, hd5, hc5, hi5, rfl, hg5, hdr5, hos5⟩
  have hli : s'.heap.IsListIter s.heap.objs.size S i := ⟨oI, (N5 _ (.head _)).1, hI1, hI2⟩
  have hSl5 : s'.heap.IsList S acc.toArray := ⟨_, (N5 (S, _) (.tail _ (.tail _ (.tail _ (.head _))))).1, rfl, cS, rfl⟩
  have hnT : ∀ p ∈ (L + 1, ocv5) :: (D, oD5) :: (S, listOf (List.toArray acc) cS) :: R, p.1 < s.heap.objs.size := fun p hp => by
    rcases List.mem_cons.mp hp with rfl | hp
    · exact hltI (L + 1, ocv) (.head _)
    rcases List.mem_cons.mp hp with rfl | hp
    · exact hltI (D, oD) (.tail _ (.head _))
    · exact hltI p (.tail _ (.tail _ hp))
  have hkvl : kvs5.length = n := by
    have := congrArg List.length hc5.1
    simpa using this
  rcases Nat.lt_or_ge i es.length with hlt | hge
  · obtain ⟨e, he⟩ : ∃ e, es[i]? = some e := ⟨_, List.getElem?_eq_getElem hlt⟩
    obtain ⟨t, tu, tv, ha1, ha2⟩ := hpa.at he
    have hem : e ∈ es := List.mem_of_getElem? he
    obtain ⟨e1, e2, e3, e4, e5⟩ := hE e hem
    refine wpAny_pyNext_list_item hli hSl5 (by rw [List.getElem?_toArray]; exact ha1) fun h6 hli6 hs6 => ?_
    dsimp only
    refine wpAny_letOwnedTupleGo_listiter hli6 ?_
    obtain ⟨oI6, hoI6, hI61, hI62⟩ := hli6
    have N6 : News h₀ L h6 ((s.heap.objs.size, oI6) :: (L + 1, ocv5) :: (D, oD5) :: (S, listOf (List.toArray acc) cS) :: R) := fun p hp => by
      rcases List.mem_cons.mp hp with rfl | hp
      · exact ⟨hoI6, Ne.symm (Nat.ne_of_lt hLI), hgI⟩
      · exact ⟨(hs6.2 _ (Nat.ne_of_lt (hnT p hp))).trans (N5 p (.tail _ hp)).1, (N5 p (.tail _ hp)).2⟩
    have F6 : Fr h₀ L h6 _ := ⟨F5.ns.at' fun o e => (hs6.2 _ (Nat.ne_of_lt hLI)).trans e, fun b o e => (hs6.2 b (fun c => by rw [c, hgI] at e; cases e)).trans (F5.keep b o e), F5.above⟩
    refine wpAny_assign_Tuple rfl (items := #[.int e.1 tu, .int e.2 tv]) ⟨_, (N6 _ (.tail _ (.tail _ (.tail _ (.tail _ (htm _ ha2)))))).1, rfl, 0, rfl⟩ rfl rfl fun h7 hx7 => ?_
    have up7 : ∀ b o, h6.get? b = some o → h7.get? b = some o := fun b o e => hx7 b o (Nat.ne_of_lt (Heap.lt_size e)) e
    have N7 : News h₀ L h7 _ := fun p hp => ⟨up7 _ _ (N6 p hp).1, (N6 p hp).2⟩
    have F7 : Fr h₀ L h7 _ := ⟨F6.ns.at' fun o e => up7 _ o e, fun b o e => up7 b o (F6.keep b o e), F6.above⟩
    obtain ⟨M7, hM7, F8⟩ := fr_pick2e (x := Str.ofString "degrees") (x2 := Str.ofString "edges") F7 ((if_neg (by decide)).trans eD) ((if_neg (by decide)).trans eS)
    clear F5 N5 F6 N6 F7
    obtain ⟨ta, hva⟩ := hc5.2 e.1 e1 e2
    obtain ⟨tb, hvb⟩ := hc5.2 e.2 e3 e4
    have hkz : kvs5.length ≤ sizeLine := by rw [hkvl, sizeLine_eq]; omega
    have hka := keys_mem hc5.1 e1 e2
    have hkb := keys_mem hc5.1 e3 e4
    have hDI : @LT.lt Nat _ D s.heap.objs.size := hnT (D, oD5) (by simp)
    have hvI : @LT.lt Nat _ (L + 1) s.heap.objs.size := hnT (L + 1, ocv5) (by simp)
    have hR1 : ∀ p ∈ R, p.1 ≠ L + 1 := fun p hp => (hR p hp).1
    have hR2 : ∀ p ∈ R, p.1 ≠ D := fun p hp => Nat.ne_of_lt (hR p hp).2
    have hID : s.heap.objs.size ≠ D := Nat.ne_of_gt hDI
    have hI1' : s.heap.objs.size ≠ L + 1 := Nat.ne_of_gt hvI
    have hD1' : D ≠ L + 1 := Nat.ne_of_gt hLD
    have hS1' : S ≠ L + 1 := Nat.ne_of_gt hLS
    have h1D' : L + 1 ≠ D := Nat.ne_of_lt hLD
    have hSD' : S ≠ D := Nat.ne_of_lt hSD
    k_steps
    rename_i ocv9 hocv9 D9 h9 q9 h10 F10 N10 h11 o11 F11 N11 hd11 h12 o12 F12 N12 hd12
    subst hM7
    rw [map_u2 eD eS] at F12
    have hb2 : bump (countAll (fun _ => 0) (es.take i)) e.1 e.2 = countAll (fun _ => 0) (es.take i) e.2 := if_neg (Ne.symm e5)
    have hcc := (hc5.set e1 e2 (tk + 1 + 1)).set e3 e4 (tk + 1 + 1 + 1 + 1 + 1)
    rw [hb2] at hcc
    refine ⟨es.length + 1 - (i + 1), by omega, i + 1, _, o12, ocv9, oI6, some (.int e.2 tv), some (.int e.1 tu), F12, fun p hp => N12 p (.tail _ hp), hocv9, hI61, hI62, hd12, ?_, hlt, rfl, hg5, hdr5, hos5⟩
    rw [show es.take (i + 1) = es.take i ++ [e] by rw [List.take_succ, he]; rfl, countAll_snoc]
    exact hcc
  · refine wpAny_pyNext_list_end rfl hli hSl5 (by rw [List.getElem?_toArray]; exact List.getElem?_eq_none (by rw [hlen]; exact hge)) fun h6 hext => ?_
    dsimp only
    have F6 : Fr h₀ L h6 _ := ⟨F5.ns.at' fun o e => hext _ o (Nat.ne_of_lt hLI) e, fun b o e => hext b o (fun c => by rw [c, hgI] at e; cases e) (F5.keep b o e), F5.above⟩
    have N6 : News h₀ L h6 ((L + 1, ocv5) :: (D, oD5) :: (S, listOf (List.toArray acc) cS) :: R) := fun p hp => ⟨hext _ _ (Nat.ne_of_lt (hnT p hp)) (N5 p (.tail _ hp)).1, (N5 p (.tail _ hp)).2⟩
    rw [List.take_of_length_le hge] at hc5
    refine wpAny_execs_nil ?_
    exact h _ oD5 ocv5 v5 kvs5 u5 hg5 hdr5 hos5 F6 N6 hv5 hd5 hc5
end Mine
end
section
open PySem PySem.W PySem.Calls PyProof.Rows
set_option maxRecDepth 100000
namespace Mine
section
variable {w : World} {A : Around} {C I S Lg : Addr} {n g0 B : Nat} {ed : Nat → Int × Int} {St : Nat → Shared → Prop}
  {scope : Scope} {cl : List (Str × Addr)} {code : Value} {env : Env} {p1 p2 p3 p4 : Pos} {k4 : Nat} {xa xb : Str}
theorem letGo_gen {prog : Program} {E : Value → Shared → Prop} {s : Shared} {g : Nat} {t : Addr} {elts : List Expr} {k : Nat} {p : Pos} {Q : Unit → Shared → Prop} (hg : s.heap.IsGen I g) (h : Q () s) :
    wpAny (model prog w) A (letOwnedTupleGo (.Tuple elts k p) (.ref I) (.ref t)) Q E s := by
  obtain ⟨o, nm, qn, ho, hc, hd, hs⟩ := hg
  unfold letOwnedTupleGo
  refine wpAny_bind (wpAny_load ho ?_)
  simp only [hc, hd]
  exact wpAny_pure h
/-- the turns of (d for v, d in ..) over an iterator of pairs -/
theorem pairTurnsX (hh : A.handled = none) (hk : scope.kind = .function)
    (hxa : (genEnv scope cl C code builtinsNs env).kindOf xa = some .local) (hxb : (genEnv scope cl C code builtinsNs env).kindOf xb = some .local) (hdb : (xb == ("__debug__" : Str)) = false)
    (hg : ∀ i s, St i s → s.heap.IsGen I g0) (W : ItX PP w A I B [Lg, Lg + 1] [C, S] [g0] n (PairP B ed) St) (hSC : S ≠ C) :
    TurnsX PP w A (.Name xb p1) (.Tuple [.Name xa p2, .Name xb p3] k4 p4) I (genEnv scope cl C code builtinsNs env)
      B [Lg, Lg + 1, C] [S] [g0] n (IntP fun i => (ed i).2) (fun i s => St i s ∧ (∃ m oC, s.heap.Ns C m ∧ s.heap.get? C = some oC ∧ ¬ TupO oC) ∧ ∃ o, s.heap.get? S = some o) where
  frame := fun i s s' st hs => by
    obtain ⟨h1, ⟨m, oC, h2, h2', h2''⟩, oS, h3⟩ := st
    have hCS : C ∉ [S] := by rw [List.mem_singleton]; exact Ne.symm hSC
    refine ⟨W.frame i s s' h1 ⟨fun b o hb e => hs.heap b o (by simp only [List.mem_cons, List.not_mem_nil, or_false, not_or] at hb ⊢; exact hb.2) e, hs.gens, fun b hb o e => ?_⟩, ⟨m, oC, h2.at' fun o e => hs.heap _ o hCS e, hs.heap _ _ hCS h2', h2''⟩, hs.live S (List.mem_singleton.mpr rfl) _ h3⟩
    simp only [List.mem_cons, List.not_mem_nil, or_false] at hb
    rcases hb with rfl | rfl
    · exact ⟨o, hs.heap _ _ hCS e⟩
    · exact hs.live _ (List.mem_singleton.mpr rfl) _ e
  turn := fun i s hi st hl => by
    obtain ⟨h1, ⟨m, oC, hns, hoC, hnt⟩, oS, hoS⟩ := st
    refine W.item i s _ _ hi h1 hl fun v s1 hP st1 hkx => ⟨v, rfl, ?_⟩
    obtain ⟨t, tu, tv, rfl, ht, hBt⟩ := hP
    refine letGo_gen (hg _ _ st1) ?_
    have hC1 := hkx.heap C _ hoC (.inr (.inl (.head _)))
    have hS1 := hkx.heap S _ hoS (.inr (.inl (.tail _ (.head _))))
    have hn1 : s1.heap.Ns C m := hns.at' fun o e => by rw [hoC] at e; cases e; exact hC1
    refine wpAny_assign_Tuple hh (items := #[.int (ed i).1 tu, .int (ed i).2 tv]) ⟨_, ht, rfl, 0, rfl⟩ rfl rfl fun h3 hx3 => ?_
    have hkd : (genEnv scope cl C code builtinsNs env).scope.kind = .function := hk
    have up3 : ∀ b o, s1.heap.get? b = some o → h3.get? b = some o := fun b o e => hx3 b o (Nat.ne_of_lt (Heap.lt_size e)) e
    have hn3 : h3.Ns (genEnv scope cl C code builtinsNs env).locals m := hn1.at' fun o e => up3 _ o e
    show wpAny _ A (holding [.int (ed i).2 tv] (assign (.Name xa p2) (genEnv scope cl C code builtinsNs env) (.int (ed i).1 tu)) >>= fun _ => (holding [] (assign (.Name xb p3) (genEnv scope cl C code builtinsNs env) (.int (ed i).2 tv)) >>= fun _ => pure ())) _ _ _
    refine wpAny_bind (wpAny_holding (wpAny_assign_Name (wpAny_storeName_local hxa hn3 (fun h4 hn4 hs4 => ?_) (by rw [hkd]; rfl))))
    refine wpAny_bind (wpAny_holding (wpAny_assign_Name (wpAny_storeName_local hxb hn4 (fun h5 hn5 hs5 => wpAny_pure ?_) (by rw [hkd]; rfl))))
    have up5 : ∀ b o, b ≠ C → s1.heap.get? b = some o → h5.get? b = some o := fun b o hb e => (hs5.2 b hb).trans ((hs4.2 b hb).trans (up3 b o e))
    obtain ⟨oC5, hoC5⟩ : ∃ o, h5.get? C = some o := by obtain ⟨o, _, _, ho, _⟩ := hn5; exact ⟨o, ho⟩
    have hS5 := up5 _ _ hSC hS1
    refine wpAny_Name (wpAny_loadName_local hk hxb hn5 (if_pos rfl) ⟨⟨W.frame (i + 1) s1 _ st1 ⟨fun b o hb e => up5 b o (by simp only [List.mem_cons, List.not_mem_nil, or_false, not_or] at hb; exact hb.1) e, fun _ _ => rfl, fun b hb o e => ?_⟩, ⟨_, oC5, hn5, hoC5, ns_notTup hn5 hoC5⟩, _, hS5⟩, ?_, _, rfl⟩) hdb
    · simp only [List.mem_cons, List.not_mem_nil, or_false] at hb
      rcases hb with rfl | rfl
      · exact ⟨_, hoC5⟩
      · exact ⟨_, hS5⟩
    · refine ⟨fun b o e hb => up5 b o ?_ (hkx.heap b o e ?_), hkx.gens, hkx.drawn, hkx.os⟩
      · rcases hb with ⟨q, q2⟩ | q | q
        · simp only [List.mem_cons, List.not_mem_nil, or_false, not_or] at q2
          exact q2.2.2
        · rw [List.mem_singleton.mp q]; exact hSC
        · intro q'
          rw [q', hoC] at e
          cases e
          exact hnt q
      · rcases hb with ⟨q, q2⟩ | q | q
        · refine .inl ⟨q, ?_⟩
          simp only [List.mem_cons, List.not_mem_nil, or_false, not_or] at q2 ⊢
          exact ⟨q2.1, q2.2.1⟩
        · exact .inr (.inl (.tail _ q))
        · exact .inr (.inr q)
  last := fun s st hl => by
    obtain ⟨h1, ⟨m, oC, hns, hoC, hnt⟩, oS, hoS⟩ := st
    refine W.done s _ _ h1 hl fun s' hkx => ⟨rfl, fun b o e hb => hkx.heap b o e ?_, hkx.gens, hkx.drawn, hkx.os⟩
    rcases hb with ⟨q, q2⟩ | q | q
    · refine .inl ⟨q, ?_⟩
      simp only [List.mem_cons, List.not_mem_nil, or_false, not_or] at q2 ⊢
      exact ⟨q2.1, q2.2.1⟩
    · exact .inr (.inl (.tail _ q))
    · exact .inr (.inr q)
end
end Mine
end
section
open PySem PySem.W PySem.Calls PyProof.Rows
namespace Mine
local macro_rules | `(tactic| walk_at "ZZ0") => `(tactic| skip)
local macro_rules | `(tactic| walk_at "ZZ1") => `(tactic| skip)
local macro_rules | `(tactic| walk_at "ZZ2") => `(tactic| skip)
local macro_rules | `(tactic| walk_at "ZZ3") => `(tactic| skip)
local macro_rules | `(tactic| walk_at "ZZ4") => `(tactic| skip)
local macro_rules | `(tactic| walk_at "ZZ5") => `(tactic| skip)
local macro_rules | `(tactic| walk_at "ZZ6") => `(tactic| skip)
local macro_rules | `(tactic| walk_at "ZZ7") => `(tactic| skip)
local macro_rules | `(tactic| walk_at "ZZ8") => `(tactic| skip)
local macro_rules | `(tactic| walk_at "ZZ9") => `(tactic| skip)
local macro_rules | `(tactic| walk_at "ZZ10") => `(tactic| skip)
local macro_rules | `(tactic| walk_at "ZZ11") => `(tactic| skip)
local macro_rules | `(tactic| walk_at "ZZ12") => `(tactic| skip)
local macro_rules | `(tactic| walk_at "ZZ13") => `(tactic| skip)
local macro_rules | `(tactic| walk_at "ZZ14") => `(tactic| skip)
local macro_rules | `(tactic| walk_at "ZZ15") => `(tactic| skip)
local macro_rules | `(tactic| walk_at "ZZ16") => `(tactic| skip)
local macro_rules | `(tactic| walk_at "ZZ17") => `(tactic| skip)
local macro_rules | `(tactic| walk_at "ZZ18") => `(tactic| skip)
local macro_rules | `(tactic| walk_at "ZZ19") => `(tactic| skip)
local macro_rules | `(tactic| walk_at "ZZ20") => `(tactic| skip)
local macro_rules | `(tactic| walk_at "ZZ21") => `(tactic| skip)
local macro_rules | `(tactic| walk_at "ZZ22") => `(tactic| skip)
local macro_rules | `(tactic| walk_at "ZZ23") => `(tactic| skip)
local macro_rules | `(tactic| walk_at "ZZ24") => `(tactic| skip)
local macro_rules | `(tactic| walk_at "ZZ25") => `(tactic| skip)
local macro_rules | `(tactic| walk_at "ZZ26") => `(tactic| skip)
local macro_rules | `(tactic| walk_at "ZZ27") => `(tactic| skip)
local macro_rules | `(tactic| walk_at "ZZ28") => `(tactic| skip)
local macro_rules | `(tactic| walk_at "ZZ29") => `(tactic| skip)
theorem rs25 {M : Model} {A : Around} {E : Value → Shared → Prop} {s : Shared} {env : Env} {pos : Pos} {Q : Flow → Shared → Prop} (h : wpAny M A (exec (.Pass pos) env) Q E s) : wpAny M A (exec (.Pass pos) env) Q E s := by
  w_top off
  first | (walk1; fail) | exact h
end Mine
end
section
open PySem PySem.W PySem.Calls PyProof.Rows
set_option maxRecDepth 100000
set_option maxHeartbeats 2000000
set_option rowWalk.seconds 0
namespace Mine
local macro_rules | `(tactic| k_all) => `(tactic| assumption)
local macro_rules | `(tactic| walk_at "call builtin:len") => `(tactic| (k_here; (with_reducible show wpAny _ _ (call (Value.builtin "len") [Value.ref _]) _ _ _); k_dflt (refine kda_len (knd := PySem.intKind _ _) (by k_asm) (by k_mem) (by k_asm) (by k_asm) (by omega) ?_)))
local macro_rules | `(tactic| walk_at "getAttr ref") => `(tactic| (k_here; k_dflt (refine' getS_own ?k1 ?k2 ?k3 ?k4 ?k5 ?k6 ?k7 ?k8 ?k9 ?_; (case k1 => k_asm); (case k2 => k_asm); (case k3 => k_inst); (case k4 => k_is); (case k5 => k_is); (case k6 => k_is); (case k7 => k_is); (case k8 => k_get); (case k9 => k_handed); k_whole)))
local macro_rules | `(tactic| walk_at "getMethod ref") => `(tactic| (k_here; k_dflt (first | (refine' methS_inst ?k1 ?k2 ?k3 ?k4 ?k5 ?k6 ?k7 ?_; (case k1 => k_asm); (case k2 => k_asm); (case k3 => k_inst); (case k4 => k_is); (case k5 => k_is); (case k6 => k_is); (case k7 => k_get); k_whole) | (refine' dictS_getm (News.get (by k_asm) (by k_mem)) ?_; k_whole))))
local macro_rules | `(tactic| walk_at "call builtin:dict.get") => `(tactic| (k_here; (with_reducible show wpAny _ _ (call (Value.builtin "dict.get") [Value.ref _, Value.str _ _, _]) _ _ _); k_dflt (refine' dictS_get2 (News.get (by k_asm) (by k_mem)) ?k ?y ?l ?_; (case k => assumption); (case y => assumption); (case l => k_get); k_whole)))
local macro_rules | `(tactic| walk_at "setItem ref str") => `(tactic| (k_here; k_dflt (refine' dictS_set ?F ?N ?U ?k ?l ?z ?_; (case F => k_asm); (case N => k_asm); (case U => k_upd); (case k => assumption); (case l => k_get); (case z => simp); k_whole); intro h' F' N'))
local macro_rules | `(tactic| walk_at "call builtin:hasattr") => `(tactic| (k_here; k_dflt (refine' hasattr_K ?F ?X ?N ?I rfl ?g ?hh ?ha ?c ?l ?cd ?fo ?n ?z ?mo ?_; (case F => k_asm); (case X => k_asm); (case N => k_asm); (case I => k_inst); (case g => k_is); (case hh => k_is); (case ha => k_is); (case c => decide +kernel); (case l => (refine lookS ?_; k_get)); (case cd => k_is); (case fo => decide +kernel); (case n => decide +kernel); (case z => decide +kernel); (case mo => k_is); k_whole); intro h' tk' F' N'))
theorem callWith_ownKW0 {M : Model} {A : Around} {E : Value → Shared → Prop} {s : Shared} {K : Frag} {env : Env} {pos : Pos} {x C f : Addr} {ox : Obj} {od : Option Obj} {Q : Value → Shared → Prop} {kws : List Keyword} (_X : K.In s.heap) (_I : PySem.W.InstAt s.heap x ox C od) (hd : ox.data = .plain) (_hs : findIn K (.ref C) "__call__" = some (some (.ref f)))
    (hall : (backToKw pos (keywordEach kws env)).all (·.1.isSome) = true)
    (h : wpAny M A (evalAll ((backToKw pos (keywordEach kws env)).map (·.2))) (fun ks s₂ => kco_P K x C ox od s₂.heap ∧ wpAny M A (call (.ref x) ([] ++ []) (((backToKw pos (keywordEach kws env)).filterMap (·.1)).zip ks)) Q E s₂) E s)
    (hplain : ((backTo pos (starEach [] env)).any (·.1) || (backToKw pos (keywordEach kws env)).any (·.1.isNone)) = false := by rfl) :
    wpAny M A (callWith pos (.ref x) [] (backTo pos (starEach [] env)) (backToKw pos (keywordEach kws env))) Q E s :=
  kco_callWith_of (K := K) (C := C) (od := od) hplain hd (evalArgs_kw2_nil hall h)
local macro_rules | `(tactic| walk_at "callWith ref") => `(tactic| (k_here; k_dflt (refine' callWith_ownKW0 ?k1 ?k2 ?k3 ?k4 ?k5 ?_; (case k1 => k_in); (case k2 => k_inst); (case k3 => rfl); (case k4 => k_is); (case k5 => rfl); k_whole)))
local macro_rules | `(tactic| walk_at "getMethod ref") => `(tactic| (k_here; k_dflt (refine' degree_get (w := _) ?B ?F ?X ?N ?T ?x ?y ?z ?_; (case B => k_asm); (case F => k_asm); (case X => k_asm); (case N => k_asm); (case T => k_asm); (case x => assumption); (case y => assumption); (case z => assumption)); intro h' tk' wv wd u1 u2 u3 u4 t5 F' N' l'; dsimp only))
local macro_rules | `(tactic| walk_at "RUNITER") => `(tactic| repeat' (first | ((fail_if_success (with_reducible show wpAny _ _ (pyIter _) _ _ _)); first | (k_unfold; (try dsimp only)) | walk1 | (dsimp only; walk1) | (leave1; try dsimp only))))
local macro_rules | `(tactic| walk_at "eval GeneratorExp") => `(tactic| (k_here; k_dflt (refine' gexp_K (P := 613) (c := 617) (cl := _) ?T ?C rfl rfl rfl rfl (by decide) rfl rfl ?room (by intro _; rfl) ?_; (case T => k_asm); (case C => exact codeHd_of_K (K := hd.heap_39 _) (by k_asm) (by kernel_rfl)); (case room => k_room))))
local macro_rules | `(tactic| walk_at "RUNSUM") => `(tactic| repeat' (first | ((fail_if_success (with_reducible show wpAny _ _ (call (.builtin "sum") _) _ _ _)); first | (k_unfold; (try dsimp only)) | walk1 | (dsimp only; walk1) | (leave1; try dsimp only))))
theorem size_spec {w : World} {mean : ExcName → Option Value} {mg mb : Str → Option Value} {gd : Option (List Code)} {cn : Str} {nms : List (Str × NameKind)} {sg sc : Bool} {mo : List (Str × Const)} {a : Addr} {ccd : Value} {cl : List (Str × Addr)} {outer : List Env} {A₀ : Around} {base h₀ : Heap} {L : Addr} {m : Str → Option Value} {rest : List (Addr × Obj)} {s : Shared}
    {Q E : Value → Shared → Prop} {ps : Array Value} {g d ga na aa ev : Addr} {t1 t2 t3 t4 : Tok} {oa : Obj} {aks : List (Int × Value)} {adj : List (Int × List Int)} {tl : List (Addr × Obj)}
    (B : Below A₀ base outer h₀) (F : Fr h₀ L s.heap m) (X : (hd.heap_39 w.params).In h₀) (N : News h₀ L s.heap ((g, instObj 629 d) :: (d, dictS (DEe w t1 t2 t3 t4 ga na aa ev) 4) :: (aa, oa) :: (613, tabObj ps) :: (tl ++ rest))) (T : Top TP LS mean mg mb h₀)
    (hps : TriplesOk ps.toList) (hoa : oa.IsDictOf (PySem.intKind PP w) aks) (laa : (aa == sysModules) = false) (hinn : Inn (prog := PP) w tl aks adj) (hlen : adj.length ≤ 11) (hcl : Closed adj) (hnd : (adj.map (·.1)).Nodup)
    (hds : (d == sysModules) = false) (hgd : g ≠ d) (hrd : ∀ p ∈ (aa, oa) :: (613, tabObj ps) :: (tl ++ rest), p.1 ≠ d)
    (h613 : ∀ p ∈ (g, instObj 629 d) :: (d, dictS (DEe w t1 t2 t3 t4 ga na aa ev) 4) :: (aa, oa) :: (tl ++ rest), p.1 ≠ 613)
    (h : ∀ h' tk gs ps' wv wd u1 u2 u3 u4 t5 t, Fr h₀ L h' m → News h₀ L h' ((wv, instObj 154 wd) :: (wd, dictOf (DEw w u1 u2 u3 u4 aa) 4) :: (g, instObj 629 d) :: (d, dictS (DEf w t1 t2 t3 t4 t5 ga na aa ev wv) 5) :: (aa, oa) :: (613, tabObj ps') :: (tl ++ rest)) → TriplesOk ps'.toList → GExt s.gens gs →
      Q (.int ((preSum (lenVal adj) adj.length).fdiv 2) t) { heap := h', gens := gs, drawn := s.drawn, toks := tk, os := s.os }) :
    wpAny (model PP w) (ktrTop 304 13 gd cn { kind := .function, names := nms, isGenerator := sg, isCoroutine := sc, more := mo } L a ccd cl outer) (call (.ref 618) [.ref g]) Q E s := by
  refine of_mk ?_
  k_fill
  intro _
  walk_at "RUNITER"
  rename_i g1 L1 h1 FG1 F1 N1 B1 X1 T1 qk ek tk1 h2 tk2 wv wd u1 u2 u3 u4 t5 F2 N2 l2 g3 L3 hV FG3 F3 N3 B3 X3 T3 tk3 kF kN Tc kX
  clear F1 N1 F2 N2 FG3 F3 N3 B3 X3 T3 Tc kX
  have kF' : Fr g1 L1 hV _ := kF
  have kN' : News g1 L1 hV _ := kN
  clear kF kN
  have NV : News g1 L1 hV ((wv, instObj 154 wd) :: (wd, dictOf (DEw w u1 u2 u3 u4 aa) 4) :: (aa, oa) :: (tl ++ ((g, instObj 629 d) :: (d, dictS (DEf w t1 t2 t3 t4 t5 ga na aa ev wv) 5) :: (613, tabObj ps) :: rest))) := fun p hp => kN' p (by
    simp only [List.mem_cons, List.mem_append] at hp ⊢
    rcases hp with h | h | h | h | h | h | h | h <;> simp only [h, true_or, or_true])
  have h613wd : 613 < wd := allLt_mem l2.2.2.2 (613, tabObj ps) (by simp)
  have h613a : ∀ p ∈ (wv, instObj 154 wd) :: (wd, dictOf (DEw w u1 u2 u3 u4 aa) 4) :: (g, instObj 629 d) :: (d, dictS (DEf w t1 t2 t3 t4 t5 ga na aa ev wv) 5) :: (aa, oa) :: (tl ++ rest), p.1 ≠ 613 := fun p hp => by
    have h0 := h613
    simp only [List.mem_cons, List.mem_append] at hp
    rcases hp with h | h | h | h | h | h | h
    · rw [h]; exact Nat.ne_of_gt (Nat.lt_trans h613wd l2.1)
    · rw [h]; exact Nat.ne_of_gt h613wd
    · rw [h]; exact h613 (g, instObj 629 d) (by simp)
    · rw [h]; exact h613 (d, dictS (DEe w t1 t2 t3 t4 ga na aa ev) 4) (by simp)
    · rw [h]; exact h613 (aa, oa) (by simp)
    · exact h613 p (by simp only [List.mem_cons, List.mem_append, h, true_or, or_true])
    · exact h613 p (by simp only [List.mem_cons, List.mem_append, h, true_or, or_true])
  refine owit_iter (x := wv) (C := 154) (f := 151) (ox := instObj 154 wd) (od := some (dictOf (DEw w u1 u2 u3 u4 aa) 4)) kF' X1 ⟨(kN' _ (.head _)).1, rfl, rfl, (kN' _ (.tail _ (.head _))).1⟩ (by k_is) (by k_is) ?_
  refine iter_degree B1 kF' X1 NV T1 hoa laa hinn hlen hcl hnd [613] (fun x hx => ?_) fun h4 tk4 I cg Lg F4 hk4 hI4 hLg4 hLgI1 hsz1 hsz2 hgen4 hgo => ?_
  · rw [List.mem_singleton.mp hx]
    refine ⟨⟨_, .tail _ (.tail _ (.head _))⟩, fun p hp => h613a p ?_⟩
    simp only [List.mem_cons, List.mem_append] at hp ⊢
    rcases hp with h | h | h | h <;> simp only [h, true_or, or_true]
  have hLgI : Lg < I := Nat.lt_of_succ_lt hLgI1
  refine wpAny_specialOf hgen4.typeIs slot_gen_next.lookup ?_
  dsimp only at hk4 hI4 hLg4 hsz1 hgen4 hgo ⊢
  have h613n := kN' (613, tabObj ps) (by simp)
  have hL613 : L1 ≠ 613 := Ne.symm h613n.2.1
  refine ⟨I, L1, _, ps, rfl, F4, hk4 _ _ h613n.1, hps, h613n.2.2, ?_⟩
  intro code C a5 ps5 h5 tk5 hk5 hP5 hT5 hns5 hg5 hlt5 hCa5
  dsimp only at hk5 hlt5
  have FG5 := fr_table F4 hk5 hL613 h613n.2.2
  obtain ⟨oI, hoI⟩ : ∃ o, h4.get? I = some o := by obtain ⟨o, _, _, ho, _⟩ := hgen4; exact ⟨o, ho⟩
  obtain ⟨oC5, hoC5, -⟩ := LCg.ns_obj hns5
  obtain ⟨oa5, hoa5⟩ : ∃ o, h5.get? a5 = some o := by obtain ⟨o, _, _, ho, _⟩ := hg5; exact ⟨o, ho⟩
  have hIC : I < C := hlt5 _ _ hoI
  have hVlt : ∀ b o, hV.get? b = some o → b < Lg := fun b o e => Nat.lt_of_lt_of_le (Heap.lt_size e) hsz1
  have gnone : ∀ x, Lg ≤ x → g1.get? x = none := fun x hx => by
    cases q : g1.get? x with
    | none => rfl
    | some o => exact absurd (hVlt _ _ (kF'.keep _ _ q)) (Nat.not_lt.mpr hx)
  have hI613 : I ≠ 613 := fun e => Nat.lt_irrefl _ (Nat.lt_trans (e ▸ hLgI : Lg < 613) (hVlt _ _ h613n.1))
  have hI5 := hk5 _ _ hI613 hoI
  have hL1 : L1 < Lg := by obtain ⟨oL, _, _, hL, _⟩ := kF'.ns; exact hVlt _ _ hL
  walk_at "RUNSUM"
  rename_i qk ek
  have ha5n : h5.get? a5 = some oa5 := hoa5
  have hcsg : ∃ o, g1.get? cStatics = some o := by obtain ⟨mc, ⟨oS, _, _, hS0, _⟩, _⟩ := Top.nolimit T1; exact ⟨oS, hS0⟩
  have hcsL : cStatics < Lg := by
    obtain ⟨oS, hS0⟩ := hcsg
    refine Nat.lt_of_not_le fun hx => ?_
    rw [gnone _ hx] at hS0
    cases hS0
  refine call_sum_ItX (wpAny_pyIter_gen hg5 ⟨a5, rfl, fun S h6 tk hS hh6 => ?_⟩)
  dsimp only at hS hh6
  have up6 : ∀ b o, h5.get? b = some o → h6.get? b = some o := fun b o e => by rw [hh6]; exact Heap.get?_push_of_some _ e
  have haS : a5 < S := by rw [hS]; exact Heap.lt_size hoa5
  have hoS : ∃ o, h6.get? S = some o := ⟨_, by rw [hh6, hS]; exact Heap.get?_push_size _ rfl⟩
  have hSC : S ≠ C := Nat.ne_of_gt (Nat.lt_trans hCa5 haS)
  have keep6 : ∀ b o, g1.get? b = some o → h6.get? b = some o := fun b o e => up6 b o (FG5.keep b o e)
  have hcwr : cStatics < S + 1 ∧ cStatics ∉ [Lg, Lg + 1, C] := by
    refine ⟨Nat.lt_succ_of_lt (Nat.lt_trans hcsL (Nat.lt_trans hLgI (Nat.lt_trans hIC (Nat.lt_trans hCa5 haS)))), ?_⟩
    simp only [List.mem_cons, List.not_mem_nil, or_false, not_or]
    exact ⟨Nat.ne_of_lt hcsL, Nat.ne_of_lt (Nat.lt_succ_of_lt hcsL), Nat.ne_of_lt (Nat.lt_trans hcsL (Nat.lt_trans hLgI hIC))⟩
  have hgl : s.gens.size < (s.gens.push (GenState.fresh cg)).size := by rw [Array.size_push]; exact Nat.lt_succ_self _
  have hLgI2 : I ∉ [Lg, Lg + 1] := by
    simp only [List.mem_cons, List.not_mem_nil, or_false, not_or]
    exact ⟨Nat.ne_of_gt hLgI, Nat.ne_of_gt hLgI1⟩
  have WI := fun A₂ => fun (hh : Around.handled A₂ = none) (hr : Around.depth A₂ < recursionLimit) => ItX.gen (prog := PP) (w := w) (A := A₂) (b := false) (a := I) (g := s.gens.size) (B := S + 1) (wr := [Lg, Lg + 1]) (cw := [C, S]) (gn := [])
    (n := adj.length) (P := PairP (S + 1) fun j => ((adj.getD j (0, [])).1, lenVal adj j)) hh hr ⟨Nat.lt_succ_of_lt (Nat.lt_trans hIC (Nat.lt_trans hCa5 haS)), hLgI2⟩ (by
      simp only [List.mem_cons, List.not_mem_nil, or_false, not_or]
      exact ⟨Nat.ne_of_lt hIC, Nat.ne_of_lt (Nat.lt_trans hIC (Nat.lt_trans hCa5 haS))⟩) List.not_mem_nil ⟨hcwr.1, by
        have := hcwr.2
        simp only [List.mem_cons, List.not_mem_nil, or_false, not_or] at this ⊢
        exact ⟨this.1, this.2.1⟩⟩
  refine ⟨S + 1, [Lg, Lg + 1, C], [S], [(s.gens.push (GenState.fresh cg)).size, s.gens.size], adj.length, lenVal adj, _, ItX.gen rfl ?room ⟨Nat.lt_succ_of_lt haS, ?aw⟩ ?ac ?gg hcwr, List.mem_singleton.mpr rfl, hcwr, ?cS,
    GenAtX.fresh rfl (pairTurnsX (xa := "v") (xb := "d") (Lg := Lg) (I := I) (n := adj.length) (g0 := s.gens.size) rfl rfl rfl rfl rfl (fun i s st => st.1) (WI _ rfl ?room2) hSC) (fun A'' E Q s st hq => wpAny_pyIter_gen st.1.1 hq) ?gen (Array.getElem?_push_size ..) ?st, (Top.nolimit T1).keeps keep6, ?post⟩
  case room => k_room
  case room2 => exact Nat.le_of_ble_eq_true rfl
  case aw =>
    simp only [List.mem_cons, List.not_mem_nil, or_false, not_or]
    exact ⟨Nat.ne_of_gt (Nat.lt_trans hLgI (Nat.lt_trans hIC hCa5)), Nat.ne_of_gt (Nat.lt_trans hLgI1 (Nat.lt_trans hIC hCa5)), Nat.ne_of_gt hCa5⟩
  case ac => rw [List.mem_singleton]; exact Nat.ne_of_lt haS
  case gg => rw [List.mem_singleton]; exact Nat.ne_of_gt hgl
  case cS => exact Nat.ne_of_lt (Nat.lt_trans hcsL (Nat.lt_trans hLgI (Nat.lt_trans hIC (Nat.lt_trans hCa5 haS))))
  case gen => exact let ⟨o, nm, qn, ho, r⟩ := hg5; ⟨o, nm, qn, up6 _ _ ho, r⟩
  case st =>
    have hns6 := hns5.at' fun o e => up6 _ o e
    refine ⟨hgo _ [C, S] (S + 1) _ rfl ⟨S, .tail _ (.head _), rfl⟩ (fun x hx => ?_) (fun b o hb e => up6 _ _ (hk5 b o (by simpa using hb) e)) ?_, ⟨_, oC5, hns6, up6 _ _ hoC5, ns_notTup hns5 hoC5⟩, hoS⟩
    · simp only [List.mem_cons, List.not_mem_nil, or_false] at hx
      rcases hx with rfl | rfl
      · exact ⟨hIC, _, up6 _ _ hoC5⟩
      · exact ⟨Nat.lt_trans hIC (Nat.lt_trans hCa5 haS), hoS⟩
    · show ((s.gens.push (GenState.fresh cg)).push _)[s.gens.size]? = _
      rw [Array.getElem?_push_lt hgl, Array.getElem_push_eq]
  case post =>
    rintro ⟨h7, gs7, dr7, tk7, os7⟩ t7 hk7 hgs7 hdr7 hos7
    dsimp only at hk7 hgs7 hdr7 hos7
    subst hdr7; subst hos7
    have hLgS : Lg < S := Nat.lt_trans hLgI (Nat.lt_trans hIC (Nat.lt_trans hCa5 haS))
    have k7 : ∀ b o, b < Lg → h5.get? b = some o → h7.get? b = some o := fun b o hb e => hk7 b o (Nat.ne_of_lt (Nat.lt_trans hb hLgS)) (up6 _ _ e) (.inl ⟨Nat.lt_succ_of_lt (Nat.lt_trans hb hLgS), by
      simp only [List.mem_cons, List.not_mem_nil, or_false, not_or]
      exact ⟨Nat.ne_of_lt hb, Nat.ne_of_lt (Nat.lt_succ_of_lt hb), Nat.ne_of_lt (Nat.lt_trans hb (Nat.lt_trans hLgI hIC))⟩⟩)
    have F7 : Fr g1 L1 h7 _ := ⟨FG5.ns.at' fun o e => k7 _ o hL1 e, fun b o e => k7 b o (Nat.lt_of_not_le fun hx => by rw [gnone b hx] at e; cases e) (FG5.keep b o e), FG5.above⟩
    have N7 : News g1 L1 h7 ((wv, instObj 154 wd) :: (wd, dictOf (DEw w u1 u2 u3 u4 aa) 4) :: (g, instObj 629 d) :: (d, dictS (DEf w t1 t2 t3 t4 t5 ga na aa ev wv) 5) :: (aa, oa) :: (613, tabObj ps5) :: (tl ++ rest)) := fun p hp => by
      have old : ∀ q ∈ (wv, instObj 154 wd) :: (wd, dictOf (DEw w u1 u2 u3 u4 aa) 4) :: (g, instObj 629 d) :: (d, dictS (DEf w t1 t2 t3 t4 t5 ga na aa ev wv) 5) :: (aa, oa) :: (tl ++ rest), h7.get? q.1 = some q.2 ∧ q.1 ≠ L1 ∧ g1.get? q.1 = none := fun q hq => by
        have hn := kN' q (by
          simp only [List.mem_cons, List.mem_append] at hq ⊢
          rcases hq with h | h | h | h | h | h | h <;> simp only [h, true_or, or_true])
        exact ⟨k7 _ _ (hVlt _ _ hn.1) (hk5 _ _ (h613a q hq) (hk4 _ _ hn.1)), hn.2⟩
      simp only [List.mem_cons, List.mem_append] at hp old
      rcases hp with h | h | h | h | h | h | h | h
      · exact old p (by simp only [h, true_or, or_true])
      · exact old p (by simp only [h, true_or, or_true])
      · exact old p (by simp only [h, true_or, or_true])
      · exact old p (by simp only [h, true_or, or_true])
      · exact old p (by simp only [h, true_or, or_true])
      · rw [h]; exact ⟨k7 _ _ (hVlt _ _ h613n.1) hP5, h613n.2⟩
      · exact old p (by simp only [h, true_or, or_true])
      · exact old p (by simp only [h, true_or, or_true])
    have hge : GExt s.gens gs7 := by
      refine ⟨?_, fun k hk => ?_, fun hb => hgs7.bare ((hb.push rfl).push rfl)⟩
      · rw [hgs7.size, Array.size_push, Array.size_push]; exact Nat.le_succ_of_le (Nat.le_succ _)
      · rw [hgs7.but k ?_, Array.getElem?_push_lt (by rw [Array.size_push]; exact Nat.lt_succ_of_lt hk), Array.getElem_push_lt hk, Array.getElem?_eq_getElem hk]
        simp only [List.mem_cons, List.not_mem_nil, or_false, not_or]
        exact ⟨Nat.ne_of_lt (Nat.lt_trans hk hgl), Nat.ne_of_lt hk⟩
    clear FG5 kF' kN' NV F4
    k_steps
    rename_i kF kN Tc kX
    exact h _ _ _ _ _ _ _ _ _ _ _ _ kF kN hT5 hge
end Mine
end
section
open PySem PySem.W PySem.Calls PyProof.Rows
namespace Mine
local macro_rules | `(tactic| walk_at "ZZ0") => `(tactic| skip)
local macro_rules | `(tactic| walk_at "ZZ1") => `(tactic| skip)
local macro_rules | `(tactic| walk_at "ZZ2") => `(tactic| skip)
local macro_rules | `(tactic| walk_at "ZZ3") => `(tactic| skip)
local macro_rules | `(tactic| walk_at "ZZ4") => `(tactic| skip)
local macro_rules | `(tactic| walk_at "ZZ5") => `(tactic| skip)
local macro_rules | `(tactic| walk_at "ZZ6") => `(tactic| skip)
local macro_rules | `(tactic| walk_at "ZZ7") => `(tactic| skip)
local macro_rules | `(tactic| walk_at "ZZ8") => `(tactic| skip)
local macro_rules | `(tactic| walk_at "ZZ9") => `(tactic| skip)
local macro_rules | `(tactic| walk_at "ZZ10") => `(tactic| skip)
local macro_rules | `(tactic| walk_at "ZZ11") => `(tactic| skip)
local macro_rules | `(tactic| walk_at "ZZ12") => `(tactic| skip)
local macro_rules | `(tactic| walk_at "ZZ13") => `(tactic| skip)
local macro_rules | `(tactic| walk_at "ZZ14") => `(tactic| skip)
local macro_rules | `(tactic| walk_at "ZZ15") => `(tactic| skip)
local macro_rules | `(tactic| walk_at "ZZ16") => `(tactic| skip)
local macro_rules | `(tactic| walk_at "ZZ17") => `(tactic| skip)
local macro_rules | `(tactic| walk_at "ZZ18") => `(tactic| skip)
local macro_rules | `(tactic| walk_at "ZZ19") => `(tactic| skip)
local macro_rules | `(tactic| walk_at "ZZ20") => `(tactic| skip)
local macro_rules | `(tactic| walk_at "ZZ21") => `(tactic| skip)
local macro_rules | `(tactic| walk_at "ZZ22") => `(tactic| skip)
local macro_rules | `(tactic| walk_at "ZZ23") => `(tactic| skip)
local macro_rules | `(tactic| walk_at "ZZ24") => `(tactic| skip)
local macro_rules | `(tactic| walk_at "ZZ25") => `(tactic| skip)
local macro_rules | `(tactic| walk_at "ZZ26") => `(tactic| skip)
local macro_rules | `(tactic| walk_at "ZZ27") => `(tactic| skip)
local macro_rules | `(tactic| walk_at "ZZ28") => `(tactic| skip)
local macro_rules | `(tactic| walk_at "ZZ29") => `(tactic| skip)
theorem rs26 {M : Model} {A : Around} {E : Value → Shared → Prop} {s : Shared} {env : Env} {pos : Pos} {Q : Flow → Shared → Prop} (h : wpAny M A (exec (.Pass pos) env) Q E s) : wpAny M A (exec (.Pass pos) env) Q E s := by
  w_top off
  first | (walk1; fail) | exact h
end Mine
end
section
open PySem PySem.W PySem.Calls PyProof.Rows
set_option maxRecDepth 100000
set_option maxHeartbeats 2000000
set_option rowWalk.seconds 0
namespace Mine
local macro_rules | `(tactic| k_all) => `(tactic| assumption)
local macro_rules | `(tactic| walk_at "call builtin:len") => `(tactic| (k_here; (with_reducible show wpAny _ _ (call (Value.builtin "len") [Value.ref _]) _ _ _); k_dflt (refine kda_len (knd := PySem.intKind _ _) (by k_asm) (by k_mem) (by k_asm) (by k_asm) (by omega) ?_)))
local macro_rules | `(tactic| walk_at "getAttr ref") => `(tactic| (k_here; k_dflt (refine' getS_own ?k1 ?k2 ?k3 ?k4 ?k5 ?k6 ?k7 ?k8 ?k9 ?_; (case k1 => k_asm); (case k2 => k_asm); (case k3 => k_inst); (case k4 => k_is); (case k5 => k_is); (case k6 => k_is); (case k7 => k_is); (case k8 => k_get); (case k9 => k_handed); k_whole)))
local macro_rules | `(tactic| walk_at "getMethod ref") => `(tactic| (k_here; k_dflt (first | (refine' methS_inst ?k1 ?k2 ?k3 ?k4 ?k5 ?k6 ?k7 ?_; (case k1 => k_asm); (case k2 => k_asm); (case k3 => k_inst); (case k4 => k_is); (case k5 => k_is); (case k6 => k_is); (case k7 => k_get); k_whole) | (refine' dictS_getm (News.get (by k_asm) (by k_mem)) ?_; k_whole))))
local macro_rules | `(tactic| walk_at "call builtin:dict.get") => `(tactic| (k_here; (with_reducible show wpAny _ _ (call (Value.builtin "dict.get") [Value.ref _, Value.str _ _, _]) _ _ _); k_dflt (refine' dictS_get2 (News.get (by k_asm) (by k_mem)) ?k ?y ?l ?_; (case k => assumption); (case y => assumption); (case l => k_get); k_whole)))
local macro_rules | `(tactic| walk_at "setItem ref str") => `(tactic| (k_here; k_dflt (refine' dictS_set ?F ?N ?U ?k ?l ?z ?_; (case F => k_asm); (case N => k_asm); (case U => k_upd); (case k => assumption); (case l => k_get); (case z => simp); k_whole); intro h' F' N'))
local macro_rules | `(tactic| walk_at "call builtin:hasattr") => `(tactic| (k_here; k_dflt (refine' hasattr_K ?F ?X ?N ?I rfl ?g ?hh ?ha ?c ?l ?cd ?fo ?n ?z ?mo ?_; (case F => k_asm); (case X => k_asm); (case N => k_asm); (case I => k_inst); (case g => k_is); (case hh => k_is); (case ha => k_is); (case c => decide +kernel); (case l => (refine lookS ?_; k_get)); (case cd => k_is); (case fo => decide +kernel); (case n => decide +kernel); (case z => decide +kernel); (case mo => k_is); k_whole); intro h' tk' F' N'))

section
variable {prog : Program} {w : World} {A : Around} {E : Value → Shared → Prop} {s : Shared} {h₀ : Heap} {L x C f : Addr} {m : Str → Option Value} {ox : Obj} {od : Option Obj} {K : Frag}
theorem iter_own {Q : Value → Shared → Prop} (F : Fr h₀ L s.heap m) (X₀ : K.In h₀) (I : PySem.W.InstAt s.heap x ox C od) (hs : findIn K (.ref C) "__iter__" = some (some (.ref f))) (hf : isFn K (.ref f) = true)
    (h : wpAny (model prog w) A.in1 (call (.ref f) [.ref x]) (OwitIt (model prog w) A.in1 Q E) E s) : wpAny (model prog w) A (call (.builtin "iter") [.ref x]) Q E s := by
  refine call_function_entry (by decide +kernel) (by decide +kernel) kdk_entry_iter (kdk_args_iter _) ?_
  unfold Builtin.«iter»
  refine wpAny_bind (m := someArgs "iter" 1 2 _) (wpAny_of_eq (a := [Value.ref x]) (by first | rfl | kernel_rfl!) ?_)
  show wpAny _ _ (pyIter (.ref x) >>= _) _ _ _
  refine wpAny_bind (owit_iter F X₀ I hs hf (wpAny_mono h (fun it s₂ h₂ => wpAny_mono h₂ (fun r s₃ hr => ?_) fun _ _ e => e) fun _ _ e => e))
  cases r with
  | none => exact hr
  | some g => exact wpAny_pure ⟨_, rfl, hr⟩
end
local macro_rules | `(tactic| walk_at "call builtin:next") => `(tactic| (k_here; (with_reducible show wpAny _ _ (call (Value.builtin "next") [Value.ref _]) _ _ _); k_dflt (refine' kdk_next (knd := PySem.intKind _ _) ?F ?N ?U ?i ?a ?p ?x ?_; (case F => k_asm); (case N => k_asm); (case U => k_updF); (case i => k_asm); (case a => k_asm); (case p => k_mem); (case x => assumption); intro h' o' y' hk' F' N' hi'; obtain ⟨t', ey'⟩ := PySem.Value.isInt_shape hk'; subst ey'; (try dsimp only at N'))))
local macro_rules | `(tactic| walk_at "RUNIT") => `(tactic| repeat' (first | ((fail_if_success (with_reducible show wpAny _ _ (call (.builtin "iter") _) _ _ _)); first | (k_unfold; (try dsimp only)) | walk1 | (dsimp only; walk1) | (leave1; try dsimp only))))
theorem arb_spec {w : World} {mean : ExcName → Option Value} {mg mb : Str → Option Value} {gd : Option (List Code)} {cn : Str} {nms : List (Str × NameKind)} {sg sc : Bool} {mo : List (Str × Const)} {a : Addr} {ccd : Value} {cl : List (Str × Addr)} {outer : List Env} {A₀ : Around} {base h₀ : Heap} {L : Addr} {m : Str → Option Value} {rest : List (Addr × Obj)} {s : Shared}
    {Q E : Value → Shared → Prop} {g d ga na aa ev wv : Addr} {t1 t2 t3 t4 t5 : Tok} {on : Obj} {nks : List (Int × Value)} {k0 : Int} {v0 : Value}
    (B : Below A₀ base outer h₀) (F : Fr h₀ L s.heap m) (X : (hd.heap_39 w.params).In h₀) (N : News h₀ L s.heap ((g, instObj 629 d) :: (d, dictS (DEf w t1 t2 t3 t4 t5 ga na aa ev wv) 5) :: (na, on) :: rest)) (T : Top TP LS mean mg mb h₀)
    (hon : on.IsDictOf (PySem.intKind PP w) nks) (lna : (na == sysModules) = false) (hx0 : nks[0]? = some (k0, v0))
    (h : ∀ h' tk t, Fr h₀ L h' m → News h₀ L h' ((g, instObj 629 d) :: (d, dictS (DEf w t1 t2 t3 t4 t5 ga na aa ev wv) 5) :: (na, on) :: rest) → Q (.int k0 t) { s with heap := h', toks := tk }) :
    wpAny (model PP w) (ktrTop 303 10 gd cn { kind := .function, names := nms, isGenerator := sg, isCoroutine := sc, more := mo } L a ccd cl outer) (call (.ref 644) [.ref g]) Q E s := by
  refine of_mk ?_
  k_fill
  intro _
  walk_at "RUNIT"
  rename_i g1 L1 h1 FG1 F1 N1 B1 X1 T1
  refine iter_own F1 X1 (x := g) (C := 629) (f := 410) (ox := instObj 629 d) (od := some (dictS (DEf w t1 t2 t3 t4 t5 ga na aa ev wv) 5)) ⟨(N1 _ (.head _)).1, rfl, rfl, (N1 _ (.tail _ (.head _))).1⟩ (by k_is) (by k_is) ?_
  k_steps
  rename_i D h4 oD ep F4 N4 hi4 ha4 l4 kF kN Tc kX
  clear F4 N4 F1 N1
  have kF' : Fr g1 L1 h4 _ := kF
  have kN' : News g1 L1 h4 _ := kN
  clear kF kN
  refine wpAny_specialOf (hi4.at (kN' (D, oD) (.head _)).1).typeIs PySem.F.slot_dict_keyiterator_next.lookup ?_
  have hoff : ∀ p ∈ rest, p.1 ≠ D := fun p hp => Nat.ne_of_lt (allLt_mem l4.2.2.2 p hp)
  k_steps
  rename_i kF kN Tc kX
  exact h _ _ _ kF (news_sub kN fun p hp => by
    simp only [List.mem_cons] at hp ⊢
    rcases hp with h | h | h | h <;> simp only [h, true_or, or_true])
end Mine
end
section
open PySem PySem.W PySem.Calls PyProof.Rows
namespace Mine
local macro_rules | `(tactic| walk_at "ZZ0") => `(tactic| skip)
local macro_rules | `(tactic| walk_at "ZZ1") => `(tactic| skip)
local macro_rules | `(tactic| walk_at "ZZ2") => `(tactic| skip)
local macro_rules | `(tactic| walk_at "ZZ3") => `(tactic| skip)
local macro_rules | `(tactic| walk_at "ZZ4") => `(tactic| skip)
local macro_rules | `(tactic| walk_at "ZZ5") => `(tactic| skip)
local macro_rules | `(tactic| walk_at "ZZ6") => `(tactic| skip)
local macro_rules | `(tactic| walk_at "ZZ7") => `(tactic| skip)
local macro_rules | `(tactic| walk_at "ZZ8") => `(tactic| skip)
local macro_rules | `(tactic| walk_at "ZZ9") => `(tactic| skip)
local macro_rules | `(tactic| walk_at "ZZ10") => `(tactic| skip)
local macro_rules | `(tactic| walk_at "ZZ11") => `(tactic| skip)
local macro_rules | `(tactic| walk_at "ZZ12") => `(tactic| skip)
local macro_rules | `(tactic| walk_at "ZZ13") => `(tactic| skip)
local macro_rules | `(tactic| walk_at "ZZ14") => `(tactic| skip)
local macro_rules | `(tactic| walk_at "ZZ15") => `(tactic| skip)
local macro_rules | `(tactic| walk_at "ZZ16") => `(tactic| skip)
local macro_rules | `(tactic| walk_at "ZZ17") => `(tactic| skip)
local macro_rules | `(tactic| walk_at "ZZ18") => `(tactic| skip)
local macro_rules | `(tactic| walk_at "ZZ19") => `(tactic| skip)
local macro_rules | `(tactic| walk_at "ZZ20") => `(tactic| skip)
local macro_rules | `(tactic| walk_at "ZZ21") => `(tactic| skip)
local macro_rules | `(tactic| walk_at "ZZ22") => `(tactic| skip)
local macro_rules | `(tactic| walk_at "ZZ23") => `(tactic| skip)
local macro_rules | `(tactic| walk_at "ZZ24") => `(tactic| skip)
local macro_rules | `(tactic| walk_at "ZZ25") => `(tactic| skip)
local macro_rules | `(tactic| walk_at "ZZ26") => `(tactic| skip)
local macro_rules | `(tactic| walk_at "ZZ27") => `(tactic| skip)
local macro_rules | `(tactic| walk_at "ZZ28") => `(tactic| skip)
local macro_rules | `(tactic| walk_at "ZZ29") => `(tactic| skip)
theorem rs27 {M : Model} {A : Around} {E : Value → Shared → Prop} {s : Shared} {env : Env} {pos : Pos} {Q : Flow → Shared → Prop} (h : wpAny M A (exec (.Pass pos) env) Q E s) : wpAny M A (exec (.Pass pos) env) Q E s := by
  w_top off
  first | (walk1; fail) | exact h
end Mine
end
section
open PySem PySem.W PySem.Calls PyProof.Rows
set_option maxRecDepth 100000
set_option maxHeartbeats 2000000
set_option rowWalk.seconds 0
namespace Mine
local macro_rules | `(tactic| k_all) => `(tactic| assumption)
local macro_rules | `(tactic| walk_at "call builtin:len") => `(tactic| (k_here; (with_reducible show wpAny _ _ (call (Value.builtin "len") [Value.ref _]) _ _ _); k_dflt (refine kda_len (knd := PySem.intKind _ _) (by k_asm) (by k_mem) (by k_asm) (by k_asm) (by omega) ?_)))
local macro_rules | `(tactic| walk_at "getAttr ref") => `(tactic| (k_here; k_dflt (refine' getS_own ?k1 ?k2 ?k3 ?k4 ?k5 ?k6 ?k7 ?k8 ?k9 ?_; (case k1 => k_asm); (case k2 => k_asm); (case k3 => k_inst); (case k4 => k_is); (case k5 => k_is); (case k6 => k_is); (case k7 => k_is); (case k8 => k_get); (case k9 => k_handed); k_whole)))
local macro_rules | `(tactic| walk_at "getMethod ref") => `(tactic| (k_here; k_dflt (first | (refine' methS_inst ?k1 ?k2 ?k3 ?k4 ?k5 ?k6 ?k7 ?_; (case k1 => k_asm); (case k2 => k_asm); (case k3 => k_inst); (case k4 => k_is); (case k5 => k_is); (case k6 => k_is); (case k7 => k_get); k_whole) | (refine' dictS_getm (News.get (by k_asm) (by k_mem)) ?_; k_whole))))
local macro_rules | `(tactic| walk_at "call builtin:dict.get") => `(tactic| (k_here; (with_reducible show wpAny _ _ (call (Value.builtin "dict.get") [Value.ref _, Value.str _ _, _]) _ _ _); k_dflt (refine' dictS_get2 (News.get (by k_asm) (by k_mem)) ?k ?y ?l ?_; (case k => assumption); (case y => assumption); (case l => k_get); k_whole)))
local macro_rules | `(tactic| walk_at "setItem ref str") => `(tactic| (k_here; k_dflt (refine' dictS_set ?F ?N ?U ?k ?l ?z ?_; (case F => k_asm); (case N => k_asm); (case U => k_upd); (case k => assumption); (case l => k_get); (case z => simp); k_whole); intro h' F' N'))
local macro_rules | `(tactic| walk_at "call builtin:hasattr") => `(tactic| (k_here; k_dflt (refine' hasattr_K ?F ?X ?N ?I rfl ?g ?hh ?ha ?c ?l ?cd ?fo ?n ?z ?mo ?_; (case F => k_asm); (case X => k_asm); (case N => k_asm); (case I => k_inst); (case g => k_is); (case hh => k_is); (case ha => k_is); (case c => decide +kernel); (case l => (refine lookS ?_; k_get)); (case cd => k_is); (case fo => decide +kernel); (case n => decide +kernel); (case z => decide +kernel); (case mo => k_is); k_whole); intro h' tk' F' N'))
local macro_rules | `(tactic| walk_at "RUN618") => `(tactic| repeat' (first | ((fail_if_success (with_reducible show wpAny _ _ (call (.ref 618) _) _ _ _)); (fail_if_success (with_reducible show wpAny _ _ (call (.ref 649) _) _ _ _)); (fail_if_success (with_reducible show wpAny _ _ (call (.ref 644) _) _ _ _)); first | (k_unfold; (try dsimp only)) | walk1 | (dsimp only; walk1) | (leave1; try dsimp only))))
theorem is_tree_spec {w : World} {mean : ExcName → Option Value} {mg mb : Str → Option Value} {gd : Option (List Code)} {cn : Str} {nms : List (Str × NameKind)} {sg sc : Bool} {mo : List (Str × Const)} {a : Addr} {ccd : Value} {cl : List (Str × Addr)} {outer : List Env} {A₀ : Around} {base h₀ : Heap} {L : Addr} {m : Str → Option Value} {rest : List (Addr × Obj)} {s : Shared}
    {Q E : Value → Shared → Prop} {ps : Array Value} {g d ga na aa ev : Addr} {t1 t2 t3 t4 : Tok} {on oa : Obj} {nks aks : List (Int × Value)} {adj : List (Int × List Int)} {tl : List (Addr × Obj)} {k0 : Int} {ns0 : List Int} {adj' : List (Int × List Int)}
    (B : Below A₀ base outer h₀) (F : Fr h₀ L s.heap m) (X : (hd.heap_39 w.params).In h₀) (N : News h₀ L s.heap ((g, instObj 629 d) :: (d, dictS (DEe w t1 t2 t3 t4 ga na aa ev) 4) :: (na, on) :: (aa, oa) :: (613, tabObj ps) :: (tl ++ rest))) (T : Top TP LS mean mg mb h₀)
    (hps : TriplesOk ps.toList) (hon : on.IsDictOf (PySem.intKind PP w) nks) (lna : (na == sysModules) = false) (hoa : oa.IsDictOf (PySem.intKind PP w) aks) (laa : (aa == sysModules) = false) (hinn : Inn (prog := PP) w tl aks adj) (hlen : adj.length ≤ 11) (hcl : Closed adj) (hnd : (adj.map (·.1)).Nodup) (hnk : nks.map (·.1) = adj.map (·.1)) (hadj : adj = (k0, ns0) :: adj')
    (hds : (d == sysModules) = false) (hgd : g ≠ d) (hrd : ∀ p ∈ (na, on) :: (aa, oa) :: (613, tabObj ps) :: (tl ++ rest), p.1 ≠ d)
    (h613 : ∀ p ∈ (g, instObj 629 d) :: (d, dictS (DEe w t1 t2 t3 t4 ga na aa ev) 4) :: (na, on) :: (aa, oa) :: (tl ++ rest), p.1 ≠ 613)
    (hsz : (preSum (lenVal adj) adj.length).fdiv 2 = (adj.length : Int) - 1) (hbf : (bfs adj (adj.length + 1) 0 [k0]).length = adj.length)
    (h : ∀ h' tk gs R' ps', Fr h₀ L h' m → News h₀ L h' R' → (∀ p ∈ (na, on) :: (aa, oa) :: (613, tabObj ps') :: (tl ++ rest), p ∈ R') → GExt s.gens gs → Q (.bool true) { heap := h', gens := gs, drawn := s.drawn, toks := tk, os := s.os }) :
    wpAny (model PP w) (ktrTop 302 7 gd cn { kind := .function, names := nms, isGenerator := sg, isCoroutine := sc, more := mo } L a ccd cl outer) (call (.ref 668) [.ref g]) Q E s := by
  have hnl : nks.length = adj.length := by have := congrArg List.length hnk; rw [List.length_map, List.length_map] at this; exact this
  have hpos : adj.length ≥ 1 := by rw [hadj, List.length_cons]; omega
  have hnl11 : nks.length ≤ 11 := by omega
  refine of_mk ?_
  k_fill
  intro _
  walk_at "RUN618"
  · rename_i hz _ _ _ _ _ _ _
    omega
  rename_i g2 L2 h2 FG2 F2 N2 B2 X2 T2
  refine size_spec (t1 := t1) (t2 := t2) (t3 := t3) (t4 := t4) (ga := ga) (na := na) (aa := aa) (ev := ev) (d := d) (oa := oa) (ps := ps) (rest := (na, on) :: rest) (tl := tl) B2 F2 X2 (fun p hp => N2 p ?n1) T2 hps hoa laa hinn hlen hcl hnd hds hgd (fun p hp => hrd p ?n2) (fun p hp => h613 p ?n3) fun h3 tk3 gs3 ps3 wv wd u1 u2 u3 u4 t5 t F3 N3 hps3 hg3 => ?_
  case n1 =>
    simp only [List.mem_cons, List.mem_append] at hp ⊢
    rcases hp with h | h | h | h | h | h | h <;> simp only [h, true_or, or_true]
  case n2 =>
    simp only [List.mem_cons, List.mem_append] at hp ⊢
    rcases hp with h | h | h | h | h <;> simp only [h, true_or, or_true]
  case n3 =>
    simp only [List.mem_cons, List.mem_append] at hp ⊢
    rcases hp with h | h | h | h | h | h <;> simp only [h, true_or, or_true]
  rw [hsz]
  have N3' : News g2 L2 h3 ((wv, instObj 154 wd) :: (wd, dictOf (DEw w u1 u2 u3 u4 aa) 4) :: (g, instObj 629 d) :: (d, dictS (DEf w t1 t2 t3 t4 t5 ga na aa ev wv) 5) :: (na, on) :: (aa, oa) :: (613, tabObj ps3) :: (tl ++ rest)) := fun p hp => N3 p (by
    simp only [List.mem_cons, List.mem_append] at hp ⊢
    rcases hp with h | h | h | h | h | h | h | h | h <;> simp only [h, true_or, or_true])
  clear N2 F2 N3
  walk_at "RUN618"
  rotate_left 1
  · rename_i hz _ _ _ _
    omega
  rename_i kF kN Tc kX hz
  obtain ⟨⟨k1, v0⟩, nks', hnks⟩ : ∃ p nks', nks = p :: nks' := by
    cases nks with
    | nil => simp at hnl; omega
    | cons p r => exact ⟨p, r, rfl⟩
  have hk1 : k1 = k0 := by
    rw [hnks, hadj] at hnk
    simp only [List.map_cons, List.cons.injEq] at hnk
    exact hnk.1
  subst hk1
  have hx0 : nks[0]? = some (k1, v0) := by rw [hnks]; rfl
  have kN2 := news_sub (l' := (g, instObj 629 d) :: (d, dictS (DEf w t1 t2 t3 t4 t5 ga na aa ev wv) 5) :: (na, on) :: ((wv, instObj 154 wd) :: (wd, dictOf (DEw w u1 u2 u3 u4 aa) 4) :: (aa, oa) :: (613, tabObj ps3) :: (tl ++ rest))) kN fun p hp => by
    simp only [List.mem_cons, List.mem_append] at hp ⊢
    rcases hp with h | h | h | h | h | h | h | h | h <;> simp only [h, true_or, or_true]
  refine' arb_spec (nks := nks) (k0 := k1) (v0 := v0) ?B kF ?X kN2 ?T hon lna hx0 ?_
  case B => k_asm
  case X => k_asm
  case T => k_asm
  intro h4 tk4 t6 F4 N4
  clear kF kN kN2
  walk_at "RUN618"
  rename_i lq h5 F5 N5 l5
  have N5' := news_sub (l' := (lq, listOf #[.int k1 t6] 0) :: (aa, oa) :: (tl ++ ((g, instObj 629 d) :: (d, dictS (DEf w t1 t2 t3 t4 t5 ga na aa ev wv) 5) :: (na, on) :: (wv, instObj 154 wd) :: (wd, dictOf (DEw w u1 u2 u3 u4 aa) 4) :: (613, tabObj ps3) :: rest))) N5 fun p hp => by
    simp only [List.mem_cons, List.mem_append] at hp ⊢
    rcases hp with h | h | h | h | h | h | h | h | h | h <;> simp only [h, true_or, or_true]
  refine' reached_spec (adj := adj) (tl := tl) (oa := oa) (aks := aks) ?B F5 ?X N5' ?T hoa laa hinn hlen hcl hnd (by rw [hadj]; exact .head _) ?_
  case B => k_asm
  case X => k_asm
  case T => k_asm
  intro h6 tk6 q vs6 c6 F6 N6 hv6 hvl6
  have hvlen : vs6.length = adj.length := hv6.length.trans hbf
  have N6' := news_sub (l' := (q, listOf (List.toArray vs6) c6) :: (g, instObj 629 d) :: (d, dictS (DEf w t1 t2 t3 t4 t5 ga na aa ev wv) 5) :: (na, on) :: (aa, oa) :: (613, tabObj ps3) :: (tl ++ rest)) N6 fun p hp => by
    simp only [List.mem_cons, List.mem_append] at hp ⊢
    rcases hp with h | h | h | h | h | h | h | h <;> simp only [h, true_or, or_true]
  clear N6 N5 N5' F5
  walk_at "RUN618"
  rename_i kF kN Tc kX
  rw [hbf, hnl, show ((adj.length : Int) == (adj.length : Int)) = true by simp]
  exact h _ _ _ _ ps3 kF kN (fun p hp => by
    simp only [List.mem_cons, List.mem_append] at hp ⊢
    rcases hp with h | h | h | h | h <;> simp only [h, true_or, or_true]) hg3
end Mine
end
section
open PySem PySem.W PySem.Calls PyProof.Rows
namespace Mine
local macro_rules | `(tactic| walk_at "ZZ0") => `(tactic| skip)
local macro_rules | `(tactic| walk_at "ZZ1") => `(tactic| skip)
local macro_rules | `(tactic| walk_at "ZZ2") => `(tactic| skip)
local macro_rules | `(tactic| walk_at "ZZ3") => `(tactic| skip)
local macro_rules | `(tactic| walk_at "ZZ4") => `(tactic| skip)
local macro_rules | `(tactic| walk_at "ZZ5") => `(tactic| skip)
local macro_rules | `(tactic| walk_at "ZZ6") => `(tactic| skip)
local macro_rules | `(tactic| walk_at "ZZ7") => `(tactic| skip)
local macro_rules | `(tactic| walk_at "ZZ8") => `(tactic| skip)
local macro_rules | `(tactic| walk_at "ZZ9") => `(tactic| skip)
local macro_rules | `(tactic| walk_at "ZZ10") => `(tactic| skip)
local macro_rules | `(tactic| walk_at "ZZ11") => `(tactic| skip)
local macro_rules | `(tactic| walk_at "ZZ12") => `(tactic| skip)
local macro_rules | `(tactic| walk_at "ZZ13") => `(tactic| skip)
local macro_rules | `(tactic| walk_at "ZZ14") => `(tactic| skip)
local macro_rules | `(tactic| walk_at "ZZ15") => `(tactic| skip)
local macro_rules | `(tactic| walk_at "ZZ16") => `(tactic| skip)
local macro_rules | `(tactic| walk_at "ZZ17") => `(tactic| skip)
local macro_rules | `(tactic| walk_at "ZZ18") => `(tactic| skip)
local macro_rules | `(tactic| walk_at "ZZ19") => `(tactic| skip)
local macro_rules | `(tactic| walk_at "ZZ20") => `(tactic| skip)
local macro_rules | `(tactic| walk_at "ZZ21") => `(tactic| skip)
local macro_rules | `(tactic| walk_at "ZZ22") => `(tactic| skip)
local macro_rules | `(tactic| walk_at "ZZ23") => `(tactic| skip)
local macro_rules | `(tactic| walk_at "ZZ24") => `(tactic| skip)
local macro_rules | `(tactic| walk_at "ZZ25") => `(tactic| skip)
local macro_rules | `(tactic| walk_at "ZZ26") => `(tactic| skip)
local macro_rules | `(tactic| walk_at "ZZ27") => `(tactic| skip)
local macro_rules | `(tactic| walk_at "ZZ28") => `(tactic| skip)
local macro_rules | `(tactic| walk_at "ZZ29") => `(tactic| skip)
theorem rs28 {M : Model} {A : Around} {E : Value → Shared → Prop} {s : Shared} {env : Env} {pos : Pos} {Q : Flow → Shared → Prop} (h : wpAny M A (exec (.Pass pos) env) Q E s) : wpAny M A (exec (.Pass pos) env) Q E s := by
  w_top off
  first | (walk1; fail) | exact h
end Mine
end
section
open PySem PySem.W PySem.Calls PyProof.Rows
set_option maxRecDepth 100000
set_option maxHeartbeats 4000000
set_option rowWalk.seconds 0
namespace Mine
local macro_rules | `(tactic| k_all) => `(tactic| assumption)
local macro_rules | `(tactic| walk_at "execs nil") => `(tactic| (k_here; refine wpAny_execs_nil ?_))
local macro_rules | `(tactic| walk_at "RUNSORT") => `(tactic| repeat' (first | ((fail_if_success (with_reducible show wpAny _ _ (call (.builtin "sorted") _) _ _ _)); (fail_if_success (with_reducible show wpAny _ _ (call (.ref 668) _) _ _ _)); first | (k_unfold; (try dsimp only)) | walk1 | (dsimp only; walk1) | (leave1; try dsimp only))))
theorem stageH {w : World} : InLaw w fun cn body sc cd => ∀ (mean : ExcName → Option Value) (mg mb : Str → Option Value) (gd : Option (List Code)) (outer : List Env) (A₀ : Around) (base h₀ : Heap) (L : Addr) (M : Str → Option Value) (s : Shared)
    (Q : Flow → Shared → Prop) (r D S g d na aa ga ev : Addr) (t1 t2 t3 t4 : Tok) (on oa oD : Obj) (vs acc : List Value) (c cS : Nat) (ns : List Int) (kvs nks aks : List (Int × Value)) (f : Int → Int) (es : List (Int × Int)) (adj adj' : List (Int × List Int)) (k0 : Int) (ns0 : List Int) (ps : Array Value) (tl R : List (Addr × Obj)),
    Below A₀ base outer h₀ → Fr h₀ L s.heap (fun y => if y = Str.ofString "degrees" then some (.ref D) else if y = Str.ofString "row" then some (.ref r) else if y = Str.ofString "edges" then some (.ref S) else if y = Str.ofString "tree" then some (.ref g) else M y) → (hd.heap_39 w.params).In h₀ →
    News h₀ L s.heap ((D, oD) :: (r, W.listOf (List.toArray vs) c) :: (S, W.listOf (List.toArray acc) cS) :: (g, instObj 629 d) :: (d, dictS (DEe w t1 t2 t3 t4 ga na aa ev) 4) :: (na, on) :: (aa, oa) :: (613, tabObj ps) :: (tl ++ R)) → Top TP LS mean mg mb h₀ →
    IntsAre vs ns → ns.length ≤ 11 → oD.IsDictOf (PySem.intKind PP w) kvs → (D == sysModules) = false → CountsAre kvs ns.length f → ((((List.range ns.length).map (fun i : Nat => (i : Int))).map f).Perm ns) → acc.length = es.length → (es.length : Int) = (ns.length : Int) - 1 →
    TriplesOk ps.toList → on.IsDictOf (PySem.intKind PP w) nks → (na == sysModules) = false → oa.IsDictOf (PySem.intKind PP w) aks → (aa == sysModules) = false → Inn (prog := PP) w tl aks adj → adj.length ≤ 11 → Closed adj → (adj.map (·.1)).Nodup → nks.map (·.1) = adj.map (·.1) → adj = (k0, ns0) :: adj' →
    (d == sysModules) = false → g ≠ d → (∀ p ∈ (D, oD) :: (r, W.listOf (List.toArray vs) c) :: (S, W.listOf (List.toArray acc) cS) :: (na, on) :: (aa, oa) :: (613, tabObj ps) :: (tl ++ R), p.1 ≠ d) →
    (∀ p ∈ (D, oD) :: (r, W.listOf (List.toArray vs) c) :: (S, W.listOf (List.toArray acc) cS) :: (g, instObj 629 d) :: (d, dictS (DEe w t1 t2 t3 t4 ga na aa ev) 4) :: (na, on) :: (aa, oa) :: (tl ++ R), p.1 ≠ 613) →
    (preSum (lenVal adj) adj.length).fdiv 2 = (adj.length : Int) - 1 → (bfs adj (adj.length + 1) 0 [k0]).length = adj.length →
    (∀ h' tk gs ps', Fr h₀ L h' (fun y => if y = Str.ofString "degrees" then some (.ref D) else if y = Str.ofString "row" then some (.ref r) else if y = Str.ofString "edges" then some (.ref S) else if y = Str.ofString "tree" then some (.ref g) else M y) →
      News h₀ L h' ((r, W.listOf (List.toArray vs) c) :: (S, W.listOf (List.toArray acc) cS) :: (613, tabObj ps') :: R) → GExt s.gens gs → Q .next { heap := h', gens := gs, drawn := s.drawn, toks := tk, os := s.os }) →
    wpAny (model PP w) (ktrTop 302 7 gd cn sc L 699 cd (cellsFrom (L + 1) sc.names []) outer) (execs ((body.drop 9).take 1) (envX cn sc L 699 cd (cellsFrom (L + 1) sc.names []))) Q Never s := by
  refine of_mk ?_
  k_fill
  intro _
  refine inLaw_of (by k_is) ?_
  intro mean mg mb gd outer A₀ base h₀ L M s Q r D S g d na aa ga ev t1 t2 t3 t4 on oa oD vs acc c cS ns kvs nks aks f es adj adj' k0 ns0 ps tl R B F X N T hi hlen hd0 hDs hc0 hperm hal hel hps hon lna hoa laa hinn hadl hcl hnd hnk hadj hds hgd hrd h613 hsz hbf h
  dsimp only [List.take, List.drop]
  walk_at "RUNSORT"
  rename_i V h1 F1 N1 l1
  refine sorted_vals rfl F1 N1 (.tail _ (.head _)) hd0 (.head _) hc0.ints (by rw [List.length_map, List.length_map, List.length_range]; omega) fun D1 vs1 ns1 c1 h2 tk2 F2 N2 l2 i1 p1 o1 => ?_
  clear F1 N1 F N
  walk_at "RUNSORT"
  walk1
  walk_at "RUNSORT"
  rotate_left 1
  · rename_i D2 vs2 ns2 c2 h3 F3 N3 i2 e2 p2 o2 b2 p3 l3 hne
    exact absurd ((p1.trans (hperm.trans p2.symm)).eq_of_pairwise (fun x y _ _ h1 h2 => Int.le_antisymm h1 h2) o1 o2) hne
  rename_i D2 vs2 ns2 c2 h3 F3 N3 i2 e2 p2 o2 b2 p3 l3 heq
  refine len_list (items := acc.toArray) ⟨_, (N3 (S, W.listOf (List.toArray acc) cS) (by simp)).1, rfl, cS, rfl⟩ (by rw [List.size_toArray]; omega) ?_
  rw [List.size_toArray, hal, hel]
  walk_at "RUNSORT"
  · exact absurd rfl (by assumption)
  have l2' : ∀ p ∈ (V, { cls := .type "dict_values", data := .fields #[.ref D] }) :: (D, oD) :: (r, W.listOf (List.toArray vs) c) :: (S, W.listOf (List.toArray acc) cS) :: (g, instObj 629 d) :: (d, dictS (DEe w t1 t2 t3 t4 ga na aa ev) 4) :: (na, on) :: (aa, oa) :: (613, tabObj ps) :: (tl ++ R), @LT.lt Nat _ p.1 D1 := l2
  have v6 : @LT.lt Nat _ 613 V := l1.2.2.2.2.2.2.2.1
  have vd : @LT.lt Nat _ d V := l1.2.2.2.2.1
  have d6 : @LT.lt Nat _ 613 D1 := l2' (613, tabObj ps) (by simp)
  have dd : @LT.lt Nat _ d D1 := l2' (d, dictS (DEe w t1 t2 t3 t4 ga na aa ev) 4) (by simp)
  have e6 : @LT.lt Nat _ 613 D2 := Nat.lt_trans d6 l3.1
  have ed : @LT.lt Nat _ d D2 := Nat.lt_trans dd l3.1
  refine is_tree_spec (t1 := t1) (t2 := t2) (t3 := t3) (t4 := t4) (ga := ga) (na := na) (aa := aa) (ev := ev) (d := d) (rest := (D2, W.listOf (List.toArray vs2) c2) :: (D1, W.listOf (List.toArray vs1) c1) :: (V, { cls := .type "dict_values", data := .fields #[.ref D] }) :: (D, oD) :: (r, W.listOf (List.toArray vs) c) :: (S, W.listOf (List.toArray acc) cS) :: R) B F3 X (fun p hp => N3 p ?n1) T hps hon lna hoa laa hinn hadl hcl hnd hnk hadj hds hgd (fun p hp => ?n2) (fun p hp => ?n3) hsz hbf fun h4 tk4 gs4 R4 ps4 F4 N4 s4 g4 => ?_
  case n1 =>
    simp only [List.mem_cons, List.mem_append] at hp ⊢
    rcases hp with h | h | h | h | h | h | h | h | h | h | h | h | h <;> simp only [h, true_or, or_true]
  case n2 =>
    simp only [List.mem_cons, List.mem_append] at hp
    rcases hp with h | h | h | h | h | h | h | h | h | h | h
    · exact hrd p (by simp only [List.mem_cons, List.mem_append, h, true_or, or_true])
    · exact hrd p (by simp only [List.mem_cons, List.mem_append, h, true_or, or_true])
    · exact hrd p (by simp only [List.mem_cons, List.mem_append, h, true_or, or_true])
    · exact hrd p (by simp only [List.mem_cons, List.mem_append, h, true_or, or_true])
    · rw [h]; exact Nat.ne_of_gt ed
    · rw [h]; exact Nat.ne_of_gt dd
    · rw [h]; exact Nat.ne_of_gt vd
    · exact hrd p (by simp only [List.mem_cons, List.mem_append, h, true_or, or_true])
    · exact hrd p (by simp only [List.mem_cons, List.mem_append, h, true_or, or_true])
    · exact hrd p (by simp only [List.mem_cons, List.mem_append, h, true_or, or_true])
    · exact hrd p (by simp only [List.mem_cons, List.mem_append, h, true_or, or_true])
  case n3 =>
    simp only [List.mem_cons, List.mem_append] at hp
    rcases hp with h | h | h | h | h | h | h | h | h | h | h | h
    · exact h613 p (by simp only [List.mem_cons, List.mem_append, h, true_or, or_true])
    · exact h613 p (by simp only [List.mem_cons, List.mem_append, h, true_or, or_true])
    · exact h613 p (by simp only [List.mem_cons, List.mem_append, h, true_or, or_true])
    · exact h613 p (by simp only [List.mem_cons, List.mem_append, h, true_or, or_true])
    · exact h613 p (by simp only [List.mem_cons, List.mem_append, h, true_or, or_true])
    · rw [h]; exact Nat.ne_of_gt e6
    · rw [h]; exact Nat.ne_of_gt d6
    · rw [h]; exact Nat.ne_of_gt v6
    · exact h613 p (by simp only [List.mem_cons, List.mem_append, h, true_or, or_true])
    · exact h613 p (by simp only [List.mem_cons, List.mem_append, h, true_or, or_true])
    · exact h613 p (by simp only [List.mem_cons, List.mem_append, h, true_or, or_true])
    · exact h613 p (by simp only [List.mem_cons, List.mem_append, h, true_or, or_true])
  have N5 : News h₀ L h4 ((r, W.listOf (List.toArray vs) c) :: (S, W.listOf (List.toArray acc) cS) :: (613, tabObj ps4) :: R) := fun p hp => N4 p (s4 p (by
    simp only [List.mem_cons, List.mem_append] at hp ⊢
    rcases hp with h | h | h | h <;> simp only [h, true_or, or_true]))
  clear N4 N3 F3
  k_steps
  exact h _ _ gs4 ps4 ‹_› N5 g4
end Mine
end
section
open PySem PySem.W PySem.Calls PyProof.Rows
set_option maxRecDepth 100000
namespace Mine
/-- all that the law asks of a tree's dict -/
def okAdj (adj : List (Int × List Int)) (degs : List Int) : Bool :=
  (adj.length == degs.length) && (adj.map (·.1) == rk adj.length) && ((edgesFrom adj []).length + 1 == adj.length) &&
  ((edgesFrom adj []).all fun e => decide (0 ≤ e.1) && decide (e.1 < (adj.length : Int)) && decide (0 ≤ e.2) && decide (e.2 < (adj.length : Int)) && !decide (e.1 = e.2)) &&
  (((rk adj.length).map (countAll (fun _ => 0) (edgesFrom adj []))).isPerm degs) && decide ((preSum (lenVal adj) adj.length).fdiv 2 = (adj.length : Int) - 1) &&
  (match adj with | [] => false | (k0, _) :: _ => (bfs adj (adj.length + 1) 0 [k0]).length == adj.length) &&
  (match nearEnd (edgesFrom adj []) (adj.length + 1) 0 [0] with | some res => res.length == adj.length | none => false)
/-- the sorted rows of numbers from 2 on whose sum, less their number, is m -/
def genA : Nat → Nat → Nat → List (List Int)
  | 0, _, m => if m = 0 then [[]] else []
  | f + 1, lo, m => if m = 0 then [[]] else (List.range (m + 1)).flatMap fun a => if lo ≤ a ∧ 1 ≤ a then (genA f a (m - a)).map fun l => ((a : Int) + 1) :: l else []
theorem genA_mem : ∀ (asc : List Int) (f lo m : Nat), asc.Pairwise (· ≤ ·) → (∀ x ∈ asc, (lo : Int) + 1 ≤ x) → (∀ x ∈ asc, 2 ≤ x) → asc.sum - asc.length = m → m ≤ f → asc ∈ genA f lo m
  | [], f, lo, m, _, _, _, hs, _ => by
    have hm : m = 0 := by simpa using hs.symm
    subst hm
    cases f <;> simp [genA]
  | x :: r, f, lo, m, ho, hl, h2, hs, hm => by
    have hx := h2 x (.head _)
    have hxl := hl x (.head _)
    have hr : 0 ≤ r.sum - r.length := by
      have : ∀ l : List Int, (∀ y ∈ l, 2 ≤ y) → 0 ≤ l.sum - l.length := by
        intro l
        induction l with
        | nil => intro _; simp
        | cons a t ih =>
          intro h
          have h1 := h a (.head _)
          have h2 := ih fun y hy => h y (.tail _ hy)
          simp only [List.sum_cons, List.length_cons]
          omega
      exact this r fun y hy => h2 y (.tail _ hy)
    simp only [List.sum_cons, List.length_cons] at hs
    rw [List.pairwise_cons] at ho
    cases f with
    | zero => omega
    | succ f =>
      have hm0 : m ≠ 0 := by omega
      rw [genA, if_neg hm0, List.mem_flatMap]
      refine ⟨(x - 1).toNat, List.mem_range.mpr (by omega), ?_⟩
      rw [if_pos ⟨by omega, by omega⟩, List.mem_map]
      refine ⟨r, genA_mem r f (x - 1).toNat (m - (x - 1).toNat) ho.2 (fun y hy => ?_) (fun y hy => h2 y (.tail _ hy)) (by omega) (by omega), ?_⟩
      · have := ho.1 y hy; omega
      · have : (((x - 1).toNat : Nat) : Int) + 1 = x := by omega
        rw [this]
def okA (asc : List Int) : Bool := okAdj (treeAdj asc) (asc ++ List.replicate ((treeAdj asc).length - asc.length) 1)
theorem all_cut {l : List (List Int)} {f : List Int → Bool} (k : Nat) (h1 : (l.take k).all f = true) (h2 : (l.drop k).all f = true) : l.all f = true := by
  rw [← List.take_append_drop k l, List.all_append, h1, h2]
  rfl
theorem ok0 : (genA 0 1 0).all okA = true := by decide +kernel
theorem ok1 : (genA 1 1 1).all okA = true := by decide +kernel
theorem ok2 : (genA 2 1 2).all okA = true := by decide +kernel
theorem ok3 : (genA 3 1 3).all okA = true := by decide +kernel
theorem ok4 : (genA 4 1 4).all okA = true := by decide +kernel
theorem ok5 : (genA 5 1 5).all okA = true := by decide +kernel
theorem ok6 : (genA 6 1 6).all okA = true := all_cut 6 (by decide +kernel) (by decide +kernel)
theorem ok7 : (genA 7 1 7).all okA = true := all_cut 8 (by decide +kernel) (by decide +kernel)
theorem ok8a : ((genA 8 1 8).take 8).all okA = true := by decide +kernel
theorem ok8b : (((genA 8 1 8).drop 8).take 8).all okA = true := by decide +kernel
theorem ok8c : (((genA 8 1 8).drop 8).drop 8).all okA = true := by decide +kernel
theorem ok8 : (genA 8 1 8).all okA = true := all_cut 8 ok8a (all_cut 8 ok8b ok8c)
theorem ok9a : ((genA 9 1 9).take 8).all okA = true := by decide +kernel
theorem ok9b : (((genA 9 1 9).drop 8).take 8).all okA = true := by decide +kernel
theorem ok9c : ((((genA 9 1 9).drop 8).drop 8).take 8).all okA = true := by decide +kernel
theorem ok9d : ((((genA 9 1 9).drop 8).drop 8).drop 8).all okA = true := by decide +kernel
theorem ok9 : (genA 9 1 9).all okA = true := all_cut 8 ok9a (all_cut 8 ok9b (all_cut 8 ok9c ok9d))
theorem ok_upto : ∀ m, m < 10 → (genA m 1 m).all okA = true
  | 0, _ => ok0
  | 1, _ => ok1
  | 2, _ => ok2
  | 3, _ => ok3
  | 4, _ => ok4
  | 5, _ => ok5
  | 6, _ => ok6
  | 7, _ => ok7
  | 8, _ => ok8
  | 9, _ => ok9
  | n + 10, h => absurd h (by omega)
theorem sum_sub2 : ∀ l : List Int, (l.map (· - 2)).sum = l.sum - 2 * l.length
  | [] => rfl
  | x :: r => by
    have := sum_sub2 r
    simp only [List.map_cons, List.sum_cons, List.length_cons]
    omega
theorem ones {l : List Int} (h : ∀ x ∈ l, x = 1) : l = List.replicate l.length 1 := List.eq_replicate_iff.mpr ⟨rfl, h⟩
theorem plain {ns : List Int} {adj : List (Int × List Int)} (hv : Valid ns) (ht : TreeOf ns adj) (hl : ns.length ≤ 11) : ∃ ds, okAdj adj ds = true ∧ ds.Perm ns ∧ adj.length = ns.length := by
  rcases ht with ⟨rfl, rfl⟩ | ⟨h0, asc, hp, ho, rfl⟩
  · exact ⟨[0], by decide +kernel, .refl _, rfl⟩
  obtain ⟨h1, hs⟩ := valid_all hv h0
  have h2 : ∀ x ∈ asc, 2 ≤ x := fun x hx => by
    have := (List.mem_filter.mp (hp.mem_iff.mp hx)).2
    simp only [decide_eq_true_eq] at this
    omega
  have hsp := sum_filter_split ns h1
  have hlen := hp.length_eq
  have hsum := perm_sum hp
  rw [sum_sub2] at hsp
  have hpos : 2 ≤ ns.length := by
    match ns, h0, h1, hs with
    | [], _, _, hs => simp at hs
    | [x], _, h1, hs =>
      have := h1 x (.head _)
      simp at hs
      omega
    | _ :: _ :: _, _, _, _ => simp
  have hm : asc.sum - asc.length = ((ns.length - 2 : Nat) : Int) := by omega
  have hmem : asc ∈ genA (ns.length - 2) 1 (ns.length - 2) := genA_mem asc _ 1 _ ho (fun x hx => by have := h2 x hx; omega) h2 hm (Nat.le_refl _)
  have hok := List.all_eq_true.mp (ok_upto _ (by omega)) asc hmem
  have hk := (adjAt_keys h2 asc.length (Nat.le_refl _)).1
  rw [lastAt_end hp h1 hs] at hk
  have hal : (treeAdj asc).length = ns.length := by
    have := congrArg List.length hk
    simpa [rk, treeAdj] using this
  refine ⟨_, hok, ?_, hal⟩
  have hq := List.filter_append_perm (fun a : Int => decide (1 < a)) ns
  refine List.Perm.trans (List.Perm.append hp ?_) hq
  have hone : ∀ x ∈ ns.filter (fun a => !decide (1 < a)), x = 1 := fun x hx => by
    obtain ⟨a, b⟩ := List.mem_filter.mp hx
    have := h1 x a
    simp only [Bool.not_eq_true', decide_eq_false_iff_not] at b
    omega
  rw [ones hone]
  have hll := hq.length_eq
  rw [List.length_append] at hll
  rw [hal, show ns.length - asc.length = (ns.filter (fun a => !decide (1 < a))).length by omega]
end Mine
end
section
open PySem PySem.W PySem.Calls PyProof.Rows
namespace Mine
local macro_rules | `(tactic| walk_at "ZZ0") => `(tactic| skip)
local macro_rules | `(tactic| walk_at "ZZ1") => `(tactic| skip)
local macro_rules | `(tactic| walk_at "ZZ2") => `(tactic| skip)
local macro_rules | `(tactic| walk_at "ZZ3") => `(tactic| skip)
local macro_rules | `(tactic| walk_at "ZZ4") => `(tactic| skip)
local macro_rules | `(tactic| walk_at "ZZ5") => `(tactic| skip)
local macro_rules | `(tactic| walk_at "ZZ6") => `(tactic| skip)
local macro_rules | `(tactic| walk_at "ZZ7") => `(tactic| skip)
local macro_rules | `(tactic| walk_at "ZZ8") => `(tactic| skip)
local macro_rules | `(tactic| walk_at "ZZ9") => `(tactic| skip)
local macro_rules | `(tactic| walk_at "ZZ10") => `(tactic| skip)
local macro_rules | `(tactic| walk_at "ZZ11") => `(tactic| skip)
local macro_rules | `(tactic| walk_at "ZZ12") => `(tactic| skip)
local macro_rules | `(tactic| walk_at "ZZ13") => `(tactic| skip)
local macro_rules | `(tactic| walk_at "ZZ14") => `(tactic| skip)
local macro_rules | `(tactic| walk_at "ZZ15") => `(tactic| skip)
local macro_rules | `(tactic| walk_at "ZZ16") => `(tactic| skip)
local macro_rules | `(tactic| walk_at "ZZ17") => `(tactic| skip)
local macro_rules | `(tactic| walk_at "ZZ18") => `(tactic| skip)
local macro_rules | `(tactic| walk_at "ZZ19") => `(tactic| skip)
local macro_rules | `(tactic| walk_at "ZZ20") => `(tactic| skip)
local macro_rules | `(tactic| walk_at "ZZ21") => `(tactic| skip)
local macro_rules | `(tactic| walk_at "ZZ22") => `(tactic| skip)
local macro_rules | `(tactic| walk_at "ZZ23") => `(tactic| skip)
local macro_rules | `(tactic| walk_at "ZZ24") => `(tactic| skip)
local macro_rules | `(tactic| walk_at "ZZ25") => `(tactic| skip)
local macro_rules | `(tactic| walk_at "ZZ26") => `(tactic| skip)
local macro_rules | `(tactic| walk_at "ZZ27") => `(tactic| skip)
local macro_rules | `(tactic| walk_at "ZZ28") => `(tactic| skip)
local macro_rules | `(tactic| walk_at "ZZ29") => `(tactic| skip)
theorem rs29 {M : Model} {A : Around} {E : Value → Shared → Prop} {s : Shared} {env : Env} {pos : Pos} {Q : Flow → Shared → Prop} (h : wpAny M A (exec (.Pass pos) env) Q E s) : wpAny M A (exec (.Pass pos) env) Q E s := by
  w_top off
  first | (walk1; fail) | exact h
end Mine
end
section
open PySem PySem.W PySem.Calls PyProof.Rows
set_option maxRecDepth 100000
set_option maxHeartbeats 4000000
namespace Mine
/-- all that the law asks of a tree's dict, told -/
theorem told {adj : List (Int × List Int)} {ds : List Int} (h : okAdj adj ds = true) :
    adj.length = ds.length ∧ adj.map (·.1) = rk adj.length ∧ (edgesFrom adj []).length + 1 = adj.length ∧ (∀ e ∈ edgesFrom adj [], 0 ≤ e.1 ∧ e.1 < (adj.length : Int) ∧ 0 ≤ e.2 ∧ e.2 < (adj.length : Int) ∧ e.1 ≠ e.2) ∧
    ((rk adj.length).map (countAll (fun _ => 0) (edgesFrom adj []))).Perm ds ∧ (preSum (lenVal adj) adj.length).fdiv 2 = (adj.length : Int) - 1 ∧
    (∃ k0 ns0 adj', adj = (k0, ns0) :: adj' ∧ (bfs adj (adj.length + 1) 0 [k0]).length = adj.length) ∧ ∃ res, nearEnd (edgesFrom adj []) (adj.length + 1) 0 [0] = some res ∧ res.length = adj.length := by
  unfold okAdj at h
  simp only [Bool.and_eq_true] at h
  obtain ⟨⟨⟨⟨⟨⟨⟨h1, h2⟩, h3⟩, h4⟩, h5⟩, h6⟩, h7⟩, h8⟩ := h
  refine ⟨by simpa using h1, by simpa using h2, by simpa using h3, fun e he => ?_, List.isPerm_iff.mp h5, by simpa using h6, ?_, ?_⟩
  · have := List.all_eq_true.mp h4 e he
    simpa [and_assoc] using this
  · cases adj with
    | nil => simp at h7
    | cons p r =>
      obtain ⟨k0, ns0⟩ := p
      exact ⟨k0, ns0, r, rfl, by simpa using h7⟩
  · cases e : nearEnd (edgesFrom adj []) (adj.length + 1) 0 [0] with
    | none => rw [e] at h8; simp at h8
    | some res => rw [e] at h8; exact ⟨res, rfl, by simpa using h8⟩
theorem inLaw_and {w : World} {P P' : Str → List Stmt → Scope → Value → Prop} (h : InLaw w P) (h' : InLaw w P') : InLaw w fun a b c d => P a b c d ∧ P' a b c d := by
  unfold InLaw at *
  generalize (hd.heap_39 w.params).lookup 699 = o at *
  rcases o with _ | ⟨a, b, c, d⟩
  · exact h.elim
  · cases c with
    | func fd =>
      dsimp only at *
      generalize fd.body = bd at *
      cases bd with
      | stmts b => exact ⟨h, h'⟩
      | _ => exact h.elim
    | _ => exact h.elim
theorem inLaw_imp {w : World} {P P' : Str → List Stmt → Scope → Value → Prop} (h : InLaw w P) (hi : ∀ a b c d, P a b c d → P' a b c d) : InLaw w P' := by
  unfold InLaw at *
  generalize (hd.heap_39 w.params).lookup 699 = o at *
  rcases o with _ | ⟨a, b, c, d⟩
  · exact h.elim
  · cases c with
    | func fd =>
      dsimp only at *
      generalize fd.body = bd at *
      cases bd with
      | stmts b => exact hi _ _ _ _ h
      | _ => exact h.elim
    | _ => exact h.elim
theorem nodup_off {A : List Addr} {a : Addr} {l' : List (Addr × Obj)} (E : List Addr) (hn : A.Nodup) (hp : A.Perm (a :: (l'.map (·.1) ++ E))) : ∀ p ∈ l', p.1 ≠ a := fun p hp' e => by
  have := hp.nodup hn
  rw [List.nodup_cons] at this
  exact this.1 (List.mem_append_left _ (List.mem_map.mpr ⟨p, hp', e⟩))
theorem drop_step (l : List Stmt) (k : Nat) : l.drop k = (l.drop k).take 1 ++ l.drop (k + 1) := by
  rw [show l.drop (k + 1) = (l.drop k).drop 1 by rw [List.drop_drop], List.take_append_drop]
theorem nodup7 {r kp L : Nat} (h1 : L + 2 < r) (h2 : r < kp) (h3 : 670 < L) : ([r, 670, kp, L + 1, L + 2, 230, 613] : List Nat).Nodup := by
  simp
  omega
theorem fr_pick1 {g h : Heap} {L : Addr} {m : Str → Option Value} {x : Str} {v : Value} (F : Fr g L h m) (e : m x = some v) : Fr g L h (fun y => if y = x then some v else m y) := by
  have : (fun y => if y = x then some v else m y) = m := by
    funext y
    by_cases h1 : y = x
    · rw [if_pos h1, h1, e]
    · rw [if_neg h1]
  rw [this]
  exact F
theorem fr_pick4 {g h : Heap} {L : Addr} {m : Str → Option Value} {x x2 x3 x4 : Str} {v v2 v3 v4 : Value} (F : Fr g L h m) (e : m x = some v) (e2 : m x2 = some v2) (e3 : m x3 = some v3) (e4 : m x4 = some v4) :
    Fr g L h (fun y => if y = x then some v else if y = x2 then some v2 else if y = x3 then some v3 else if y = x4 then some v4 else m y) := by
  have : (fun y => if y = x then some v else if y = x2 then some v2 else if y = x3 then some v3 else if y = x4 then some v4 else m y) = m := by
    funext y
    by_cases h1 : y = x
    · rw [if_pos h1, h1, e]
    · rw [if_neg h1]
      by_cases h2 : y = x2
      · rw [if_pos h2, h2, e2]
      · rw [if_neg h2]
        by_cases h3 : y = x3
        · rw [if_pos h3, h3, e3]
        · rw [if_neg h3]
          by_cases h4 : y = x4
          · rw [if_pos h4, h4, e4]
          · rw [if_neg h4]
  rw [this]
  exact F
local macro_rules | `(tactic| walk_at "MEM") => `(tactic| (intro p hp; (simp only [List.mem_cons, List.mem_append, List.not_mem_nil, or_false] at hp ⊢); (repeat' (refine Or.elim hp (fun hp => ?_) (fun hp => ?_))); (all_goals (simp only [hp, true_or, or_true]; done))))
local macro_rules | `(tactic| walk_at "MEM2") => `(tactic| (intro hp; (simp only [List.mem_cons, List.mem_append, List.not_mem_nil, or_false] at hp ⊢); (repeat' (refine Or.elim hp (fun hp => ?_) (fun hp => ?_))); (all_goals (simp only [hp, true_or, or_true]; done))))
theorem fr_pick2d {g h : Heap} {L : Addr} {m : Str → Option Value} {x x2 : Str} {v v2 : Value} (F : Fr g L h m) (e : m x = some v) (e2 : m x2 = some v2) : Fr g L h (fun y => if y = x then some v else if y = x2 then some v2 else m y) := by
  obtain ⟨M, hM, F'⟩ := fr_pick2e F e e2
  subst hM
  exact F'
local macro_rules | `(tactic| walk_at "PERM") => `(tactic| (rw [List.perm_iff_count]; intro x; (simp only [List.map_cons, List.map_append, List.map_nil, List.count_cons, List.count_append, List.count_nil]); omega))
theorem law_walk {w : World} : InLaw w fun cn body sc cd => ∀ (mean : ExcName → Option Value) (mg mb : Str → Option Value) (h₀ : Heap) (L : Addr) (M : Str → Option Value) (s : Shared) (Q : Flow → Shared → Prop) (l : Addr) (vs : List Value) (ns : List Int) (ocv ocn : Obj) (v0 n0 : Option Value),
    Below callerA h₀ [] h₀ → Fr h₀ L s.heap (fun y => if y = Str.ofString "script" then some (.ref l) else M y) → (hd.heap_39 w.params).In h₀ → News h₀ L s.heap [(L + 1, ocv), (L + 2, ocn), (230, tabObj #[]), (613, tabObj #[]), (670, tabObj #[])] → Top TP LS mean mg mb h₀ →
    h₀.IsList l vs.toArray → IntsAre vs ns → ns.length ≤ 63 → ocv.data = .cell v0 → ocn.data = .cell n0 → @LT.lt Nat _ 670 L → AllBare s.gens →
    (∀ s' ps1 ps2 ps3 m' R', s'.os = s.os → AllBare s'.gens → Fr h₀ L s'.heap m' → News h₀ L s'.heap R' → (230, tabObj ps1) ∈ R' → (613, tabObj ps2) ∈ R' → (670, tabObj ps3) ∈ R' → Q (.ret (.bool true)) s') →
    wpG (model PP w) (ktrTop 302 7 (some []) cn sc L 699 cd (cellsFrom (L + 1) sc.names []) []) (execs body (envX cn sc L 699 cd (cellsFrom (L + 1) sc.names []))) Q Never s := by
  refine inLaw_imp (inLaw_and stageA (inLaw_and tryFalse (inLaw_and tryTrue (inLaw_and stageD (inLaw_and stageE (inLaw_and stageF (inLaw_and stageG (inLaw_and stageH stageC)))))))) ?_
  rintro cn body sc cd ⟨sA, sB0, sB1, sD, sE, sF, sG, sH, sC⟩
  intro mean mg mb h₀ L M s Q l vs ns ocv ocn v0 n0 B F X N T hl hi hlen hv0 hn0 hL hbare h
  rw [show execs body (envX cn sc L 699 cd (cellsFrom (L + 1) sc.names [])) = execs (body.take 4 ++ body.drop 4) (envX cn sc L 699 cd (cellsFrom (L + 1) sc.names [])) by rw [List.take_append_drop]]
  refine wpG_execs_append (wpG_of (sA mean mg mb (some []) [] callerA h₀ h₀ L M s _ l vs ns _ B F X N T hl hi hlen fun h1 tk1 r kp vs1 ws1 ns1 c1 c2 b m1 F1 er ek eg N1 lrk lR i1 j1 n1 hb => ?_))
  show wpG _ _ (execs (body.drop 4) _) Q Never _
  have hLr : @LT.lt Nat _ (L + 2) r := lR (L + 2, ocn) (by simp)
  rw [drop_step body 4]
  cases b with
  | false =>
    have hnv : ¬ Valid ns1 := fun v => by have := hb.mpr v; cases this
    refine wpG_execs_append (wpG_of (sB0 mean mg mb h₀ L m1 _ _ r kp vs1 ws1 ns1 c1 c2 _ B F1 er ek eg X N1 T i1 j1 n1 hnv fun h2 tk2 m2 R2 F2 N2 s2 => ?_))
    exact h _ #[] #[] #[] m2 R2 rfl hbare F2 N2 (s2 _ (by simp)) (s2 _ (by simp)) (s2 _ (by simp))
  | true =>
  have hv : Valid ns1 := hb.mp rfl
  refine wpG_execs_append (wpG_of (sB1 mean mg mb (some []) [] callerA h₀ h₀ L m1 _ _ r vs1 ns1 c1 #[] [(kp, W.listOf (List.toArray ws1) c2), (L + 1, ocv), (L + 2, ocn), (230, tabObj #[]), (613, tabObj #[])] B F1 er X (fun p hp => N1 p ?_) T i1 n1 hv trivial (nodup7 hLr lrk hL) fun s2 on oa nks aks tl ps3 adj g d na aa ga t1 t2 t3 hd670 hdr2 hos2 hbr2 F2 N2 nd2 hon hoa hnk hinn hand hcl lna laa hps3 ht => ?_))
  · revert p
    walk_at "MEM"
  show wpG _ _ (execs (body.drop 5) _) Q Never _
  obtain ⟨ds, hok, hdp, hal⟩ := plain hv ht n1
  obtain ⟨hd1, hk1, he1, he2, hcnt, hsz, ⟨k0, ns0, adj', hadj, hbf⟩, res, hres, hrl⟩ := told hok
  have hadl : adj.length ≤ 11 := by omega
  have hnkk : nks.map (·.1) = rk ns1.length := by rw [hnk, hk1, hal]
  have NN : (g :: d :: na :: aa :: (tl.map (·.1) ++ [r, 670, kp, L + 1, L + 2, 230, 613])).Nodup := by simpa using nd2
  have hds : (d == sysModules) = false := by
    rw [beq_eq_false_iff_ne]
    rintro rfl
    exact absurd hd670 (by decide)
  have hgd : g ≠ d := fun e => by
    rw [List.nodup_cons] at NN
    exact NN.1 (e ▸ .head _)
  rw [drop_step body 5]
  refine wpG_execs_append (wpG_of (sD mean mg mb (some []) [] callerA h₀ h₀ L _ s2 _ g d na aa ga t1 t2 t3 on nks r kp vs1 ws1 ns1 c1 c2 ((aa, oa) :: (tl ++ [(670, tabObj ps3), (L + 1, ocv), (L + 2, ocn), (230, tabObj #[]), (613, tabObj #[])])) B (fr_pick4 F2 (x := Str.ofString "tree") (x2 := Str.ofString "row") (x3 := Str.ofString "kept") (x4 := Str.ofString "good") rfl ((if_neg (by decide)).trans er) ((if_neg (by decide)).trans ek) ((if_neg (by decide)).trans eg)) X (fun p hp => N2 p ?_) T hon lna i1 j1 n1 hnkk fun h3 tk3 F3 N3 => ?_))
  · revert p
    walk_at "MEM"
  clear F2 N2
  show wpG _ _ (execs (body.drop 6) _) Q Never _
  rw [drop_step body 6]
  refine wpG_execs_append (sE mean mg mb (some []) [] callerA h₀ h₀ L _ _ _ g d na aa ga t1 t2 t3 oa aks adj #[] tl [(na, on), (r, W.listOf (List.toArray vs1) c1), (kp, W.listOf (List.toArray ws1) c2), (670, tabObj ps3), (L + 1, ocv), (L + 2, ocn), (613, tabObj #[])] B F3 X (fun p hp => N3 p ?_) T trivial hoa laa hinn hadl hcl hand (by omega) hds hgd (nodup_off [g] NN (by walk_at "PERM")) (nodup_off [] NN (by walk_at "PERM")) fun h4 tk4 gs4 ps1 S cS acc tups ev t4 F4 N4 hps1 hpa hg4 lS lT => ?_)
  · revert p
    walk_at "MEM"
  clear F3 N3
  show wpG _ _ (execs (body.drop 7) _) Q Never _
  rw [drop_step body 7]
  refine wpG_execs_append (wpG_of (sF mean mg mb (some []) [] callerA h₀ h₀ L _ _ _ r vs1 ns1 c1 ((S, W.listOf (List.toArray acc) cS) :: (g, instObj 629 d) :: (d, dictS (DEe w t1 t2 t3 t4 ga na aa ev) 4) :: (na, on) :: (aa, oa) :: (230, tabObj ps1) :: (kp, W.listOf (List.toArray ws1) c2) :: (670, tabObj ps3) :: (L + 1, ocv) :: (L + 2, ocn) :: (613, tabObj #[]) :: (tups ++ tl)) B (fr_pick1 F4 (x := Str.ofString "row") rfl) X (fun p hp => N4 p ?_) T i1 n1 fun h5 tk5 D oD kvs F5 N5 hd5 hc5 lD hDs => ?_))
  · revert p
    walk_at "MEM"
  clear F4 N4
  show wpG _ _ (execs (body.drop 8) _) Q Never _
  have lSd : @LT.lt Nat _ d S := lS (d, dictOf (DEg w t1 t2 t3 ga na aa) 3) (by simp)
  have lS1 : @LT.lt Nat _ (L + 1) S := lS (L + 1, ocv) (by simp)
  have lS2 : @LT.lt Nat _ (L + 2) S := lS (L + 2, ocn) (by simp)
  have lS6 : @LT.lt Nat _ 613 S := lS (613, tabObj #[]) (by simp)
  have lDS : @LT.lt Nat _ S D := lD (S, W.listOf (List.toArray acc) cS) (by simp)
  rw [drop_step body 8]
  refine wpG_execs_append (wpG_of (sG mean mg mb (some []) [] callerA h₀ h₀ L _ _ _ S D acc cS ns1.length oD ocv v0 kvs (edgesFrom adj []) tups ((r, W.listOf (List.toArray vs1) c1) :: (g, instObj 629 d) :: (d, dictS (DEe w t1 t2 t3 t4 ga na aa ev) 4) :: (na, on) :: (aa, oa) :: (230, tabObj ps1) :: (kp, W.listOf (List.toArray ws1) c2) :: (670, tabObj ps3) :: (L + 2, ocn) :: (613, tabObj #[]) :: (tups ++ tl)) B F5 rfl rfl X (fun p hp => N5 p ?_) T hv0 hd5 hc5 n1 hpa (fun p hp => ?_) (by omega) (by rw [← hal]; exact he2) (Nat.lt_trans lS1 lDS) lS1 lDS (fun p hp => ⟨?_, ?_⟩) fun s6 oD6 ocv6 v6 kvs6 u6 hg6 hdr6 hos6 F6 N6 hv6 hd6 hc6 => ?_))
  · revert p
    walk_at "MEM"
  · simp only [List.mem_cons, List.mem_append, hp, true_or, or_true]
  · have off1 : ∀ p ∈ (r, W.listOf (List.toArray vs1) c1) :: (g, instObj 629 d) :: (d, dictS (DEe w t1 t2 t3 t4 ga na aa ev) 4) :: (na, on) :: (aa, oa) :: (230, tabObj ps1) :: (kp, W.listOf (List.toArray ws1) c2) :: (670, tabObj ps3) :: (L + 2, ocn) :: (613, tabObj #[]) :: tl, p.1 ≠ L + 1 := nodup_off [] NN (by walk_at "PERM")
    by_cases hpt : p ∈ tups
    · exact Nat.ne_of_gt (Nat.lt_trans lS1 (lT p hpt))
    · refine off1 p ?_
      simp only [List.mem_cons, List.mem_append] at hp ⊢
      simpa only [hpt, false_or] using hp
  · refine lD p ?_
    revert hp
    revert p
    walk_at "MEM"
  clear F5 N5
  show wpG _ _ (execs (body.drop 9) _) Q Never _
  rw [hal] at hcnt
  rw [drop_step body 9]
  refine wpG_execs_append (wpG_of (sH mean mg mb (some []) [] callerA h₀ h₀ L _ s6 _ r D S g d na aa ga ev t1 t2 t3 t4 on oa oD6 vs1 acc c1 cS ns1 kvs6 nks aks (countAll (fun _ => 0) (edgesFrom adj [])) (edgesFrom adj []) adj adj' k0 ns0 #[] tl ((L + 1, ocv6) :: (L + 2, ocn) :: (230, tabObj ps1) :: (670, tabObj ps3) :: tups) B
    (fr_pick4 F6 (x := Str.ofString "degrees") (x2 := Str.ofString "row") (x3 := Str.ofString "edges") (x4 := Str.ofString "tree") rfl rfl rfl rfl) X (fun p hp => N6 p ?_) T i1 n1 hd6 hDs hc6 (hcnt.trans hdp) hpa.len (by omega) trivial hon lna hoa laa hinn hadl hcl hand hnk hadj hds hgd (fun p hp => ?_) (fun p hp => ?_) hsz hbf fun h7 tk7 gs7 ps2 F7 N7 g7 => ?_))
  · revert p
    walk_at "MEM"
  · have off1 : ∀ p ∈ (r, W.listOf (List.toArray vs1) c1) :: (na, on) :: (aa, oa) :: (613, tabObj #[]) :: (L + 1, ocv6) :: (L + 2, ocn) :: (230, tabObj ps1) :: (670, tabObj ps3) :: tl, p.1 ≠ d := nodup_off [g, kp] NN (by walk_at "PERM")
    by_cases hpt : p ∈ tups
    · exact Nat.ne_of_gt (Nat.lt_trans lSd (lT p hpt))
    by_cases hpD : p = (D, oD6)
    · rw [hpD]; exact Nat.ne_of_gt (Nat.lt_trans lSd lDS)
    by_cases hpS : p = (S, W.listOf (List.toArray acc) cS)
    · rw [hpS]; exact Nat.ne_of_gt lSd
    refine off1 p ?_
    simp only [List.mem_cons, List.mem_append, hpt, hpD, hpS, false_or, or_false] at hp
    revert hp
    walk_at "MEM2"
  · have off1 : ∀ p ∈ (r, W.listOf (List.toArray vs1) c1) :: (g, instObj 629 d) :: (d, dictS (DEe w t1 t2 t3 t4 ga na aa ev) 4) :: (na, on) :: (aa, oa) :: (L + 1, ocv6) :: (L + 2, ocn) :: (230, tabObj ps1) :: (670, tabObj ps3) :: tl, p.1 ≠ 613 := nodup_off [kp] NN (by walk_at "PERM")
    by_cases hpt : p ∈ tups
    · exact Nat.ne_of_gt (Nat.lt_trans lS6 (lT p hpt))
    by_cases hpD : p = (D, oD6)
    · rw [hpD]; exact Nat.ne_of_gt (Nat.lt_trans lS6 lDS)
    by_cases hpS : p = (S, W.listOf (List.toArray acc) cS)
    · rw [hpS]; exact Nat.ne_of_gt lS6
    refine off1 p ?_
    simp only [List.mem_cons, List.mem_append, hpt, hpD, hpS, false_or, or_false] at hp
    revert hp
    walk_at "MEM2"
  clear F6 N6
  show wpG _ _ (execs (body.drop 10) _) Q Never _
  refine wpG_of (sC mean mg mb (some []) [] callerA h₀ h₀ L _ _ Q S r acc vs1 cS c1 (edgesFrom adj []) tups ((613, tabObj ps2) :: (230, tabObj ps1) :: (670, tabObj ps3) :: tups) ocv6 ocn v6 n0 res ns1 (adj.length + 1) i1 B (fr_pick2d F7 (x := Str.ofString "edges") (x2 := Str.ofString "row") rfl rfl) X (fun p hp => N7 p ?_) T hv6 hn0 lS2 hLr (fun p hp => ?_) hpa (fun p hp => ?_) (by omega) (by rw [i1.length]; exact n1) hres (by rw [hrl, hal, i1.length]) fun s8 hg8 hdr8 hos8 F8 N8 => ?_)
  · revert hp
    walk_at "MEM2"
  · simp only [List.mem_cons] at hp
    rcases hp with h | h | h | h
    · rw [h]; exact ⟨Nat.ne_of_lt (Nat.lt_trans (show 613 < 670 by decide) (Nat.lt_succ_of_lt hL)), Nat.ne_of_lt (Nat.lt_trans (show 613 < 670 by decide) (Nat.lt_succ_of_lt (Nat.lt_succ_of_lt hL)))⟩
    · rw [h]; exact ⟨Nat.ne_of_lt (Nat.lt_trans (show 230 < 670 by decide) (Nat.lt_succ_of_lt hL)), Nat.ne_of_lt (Nat.lt_trans (show 230 < 670 by decide) (Nat.lt_succ_of_lt (Nat.lt_succ_of_lt hL)))⟩
    · rw [h]; exact ⟨Nat.ne_of_lt (Nat.lt_succ_of_lt hL), Nat.ne_of_lt (Nat.lt_succ_of_lt (Nat.lt_succ_of_lt hL))⟩
    · exact ⟨Nat.ne_of_gt (Nat.lt_trans lS1 (lT p h)), Nat.ne_of_gt (Nat.lt_trans lS2 (lT p h))⟩
  · simp only [List.mem_cons, hp, or_true]
  · refine h s8 ps1 ps2 ps3 _ _ (hos8.trans (hos6.trans hos2)) ?_ F8 N8 (by simp) (by simp) (by simp)
    rw [hg8]
    exact g7.bare (by rw [hg6]; exact hg4.bare (hbr2 hbare))
end Mine
end
section
open PySem PySem.W PySem.Calls PyProof.Rows
namespace Mine
local macro_rules | `(tactic| walk_at "ZZ0") => `(tactic| skip)
local macro_rules | `(tactic| walk_at "ZZ1") => `(tactic| skip)
local macro_rules | `(tactic| walk_at "ZZ2") => `(tactic| skip)
local macro_rules | `(tactic| walk_at "ZZ3") => `(tactic| skip)
local macro_rules | `(tactic| walk_at "ZZ4") => `(tactic| skip)
local macro_rules | `(tactic| walk_at "ZZ5") => `(tactic| skip)
local macro_rules | `(tactic| walk_at "ZZ6") => `(tactic| skip)
local macro_rules | `(tactic| walk_at "ZZ7") => `(tactic| skip)
local macro_rules | `(tactic| walk_at "ZZ8") => `(tactic| skip)
local macro_rules | `(tactic| walk_at "ZZ9") => `(tactic| skip)
local macro_rules | `(tactic| walk_at "ZZ10") => `(tactic| skip)
local macro_rules | `(tactic| walk_at "ZZ11") => `(tactic| skip)
local macro_rules | `(tactic| walk_at "ZZ12") => `(tactic| skip)
local macro_rules | `(tactic| walk_at "ZZ13") => `(tactic| skip)
local macro_rules | `(tactic| walk_at "ZZ14") => `(tactic| skip)
local macro_rules | `(tactic| walk_at "ZZ15") => `(tactic| skip)
local macro_rules | `(tactic| walk_at "ZZ16") => `(tactic| skip)
local macro_rules | `(tactic| walk_at "ZZ17") => `(tactic| skip)
local macro_rules | `(tactic| walk_at "ZZ18") => `(tactic| skip)
local macro_rules | `(tactic| walk_at "ZZ19") => `(tactic| skip)
local macro_rules | `(tactic| walk_at "ZZ20") => `(tactic| skip)
local macro_rules | `(tactic| walk_at "ZZ21") => `(tactic| skip)
local macro_rules | `(tactic| walk_at "ZZ22") => `(tactic| skip)
local macro_rules | `(tactic| walk_at "ZZ23") => `(tactic| skip)
local macro_rules | `(tactic| walk_at "ZZ24") => `(tactic| skip)
local macro_rules | `(tactic| walk_at "ZZ25") => `(tactic| skip)
local macro_rules | `(tactic| walk_at "ZZ26") => `(tactic| skip)
local macro_rules | `(tactic| walk_at "ZZ27") => `(tactic| skip)
local macro_rules | `(tactic| walk_at "ZZ28") => `(tactic| skip)
local macro_rules | `(tactic| walk_at "ZZ29") => `(tactic| skip)
theorem rs30 {M : Model} {A : Around} {E : Value → Shared → Prop} {s : Shared} {env : Env} {pos : Pos} {Q : Flow → Shared → Prop} (h : wpAny M A (exec (.Pass pos) env) Q E s) : wpAny M A (exec (.Pass pos) env) Q E s := by
  w_top off
  first | (walk1; fail) | exact h
end Mine
end
section
open PySem PySem.W PySem.Calls PyProof.Rows
set_option maxRecDepth 100000
set_option maxHeartbeats 2000000
set_option rowWalk.seconds 0
namespace Mine
theorem front : PySem.Challenge.rw_fq0021_01.Holds := Mine.hd (by
  k_fill
  intro w s₀ s₁ mg mb G Y fa o pm cd doc dV kV ho hdd hcd hD hmg hg args vals as hpre hlay hrd hwl hlo
  have KX := km_in_of Y
  have hT8 := km_tabs_of Y
  have X := (Ground.X G).1
  have V := (Ground.X G).2
  refine Ground.open G ?_
  intro T B D TE TW
  try (refine guard_noD D (by decide +kernel) ?_; clear D)
  have hT9 : TabsAt [(234, 230), (617, 613), (672, 670)] s₁.heap := List.forall_mem_cons.mpr ⟨⟨codeHd_of_K (c := 234) (P := 230) KX (by kernel_rfl), hT8 230 (by k_mem)⟩, List.forall_mem_cons.mpr ⟨⟨codeHd_of_K (c := 617) (P := 613) KX (by kernel_rfl), hT8 613 (by k_mem)⟩, List.forall_mem_cons.mpr ⟨⟨codeHd_of_K (c := 672) (P := 670) KX (by kernel_rfl), hT8 670 (by k_mem)⟩, fun _ h => nomatch h⟩⟩⟩
  wrow_args hpre hlay hrd hwl hlo
  rename_i ns hs9 hlay9 hL9 hr9 hl29 as1 as2 l vs as3 hl ra9 w19 r09 hi hr0 hcnd hcnd2
  have hm9 := mg_of KX T.g (show nsIn (hd.heap_39 w.params) mainGlobals (Str.ofString "law") = some (some (.ref 699)) from rfl)
  have hfa : fa = 699 := by
    have e := hmg.symm.trans hm9
    cases e
    rfl
  subst hfa
  have he := Dflts.none hD rfl
  subst he
  have he := Dflts.noKw hD
  subst he
  have e3 := KX 699 _ (show (hd.heap_39 w.params).lookup 699 = some _ by k_is)
  rw [ho] at e3
  have hcd9 : cd = .ref 698 := by
    have q := hdd
    rw [Option.some.inj e3] at q
    injection q with q
    exact (congrArg FuncData.code q).symm
  subst hcd9
  clear e3
  refine wpG_enter (ghost_post hT9 (codeG_call_cells (by decide) ho (fd_plain hdd) (Top.nolimit T) hcd rfl (kinds_of (by kinds_ok)) (by decide) fun h₁ tk₁ cells F N0 X0 => ?_))
  cells_open X0
  rename_i o1 o2 hX1 hX2
  have LW := of_inLaw (w := w) (by k_is) law_walk
  have NG := ghost_news hT9 F N0
  refine wpG_mono (LW (ExcName.means s₀.heap) mg mb (ghostOf s₁.heap [(234, 230), (617, 613), (672, 670)]) s₁.heap.objs.size _ _ _ l vs ns o2 o1 _ _ (ghost_below hT9) (fr_pick1 (ghost_fr hT9 F) rfl) (ghost_K hT9 KX (by kernel_rfl)) (fun p hp => NG p ?_) (ghost_top hT9 T) (ghost_list hT9 hl) hi (by omega) hX2 hX1 (ghost_lt hT9 F (670, tabObj #[]) (by simp)) (AllBare.of_eq hg) fun s' ps1 ps2 ps3 m' R' ho' hb' F' N' r1 r2 r3 => ?_) (fun f s' q => q) fun _ _ e => e.elim
  · simp only [tabNews, List.map_cons, List.map_nil, List.mem_cons, List.mem_append, List.not_mem_nil, or_false] at hp ⊢
    rcases hp with h | h | h | h | h <;> simp only [h, true_or, or_true]
  · refine ⟨⟨.bool true, .bool true, rfl, fun x => rfl, ?_, ?_⟩, F'.keep, ho', hb', ⟨ps1, (N' _ r1).1⟩, ⟨ps2, (N' _ r2).1⟩, ⟨ps3, (N' _ r3).1⟩, trivial⟩
    · exact .bool true
    · exact postW_of (by wrow_shape) (by wtm_val) rfl)
end Mine
end
theorem PySem.Challenge.cw_fq0021_01_holds : PySem.Challenge.rw_fq0021_01.Holds := by
  exact Mine.front
