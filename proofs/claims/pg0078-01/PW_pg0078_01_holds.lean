import PyProof.Rows.All
import Wide.All
import OpenK.AllK
import Wide.FinOn
import PySem.Challenge.RW_pg0078_01
section
open PySem PySem.W PyProof.Rows
open Sem (wp)
set_option Elab.async false
set_option maxRecDepth 100000
namespace Mine

/-- no built-in that may hold a bytearray -/
def badId (id : String) : Bool := Builtin.Bytes.decodersThatHold.contains id || (["bytearray.__contains__", "bytearray.__mod__", "bytearray.__rmod__", "_struct.pack_into.held", "bytearray.find.held"] : List String).contains id
def okC : Code → Bool
  | .builtin id _ => !badId id
  | _ => true
def OkB (l : List (Code × Pos)) : Prop := ∀ x ∈ l, okC x.1 = true
def Ok (Γ : Ctx) : Prop := okC Γ.code = true ∧ OkB Γ.below

/-- wpAny over the contexts that hold no bytearray -/
def wpS {α : Type} (M : Model) (A : Around) (t : Sem α) (Q : α → Shared → Prop) (E : Value → Shared → Prop) (s : Shared) : Prop :=
  ∀ Γ p, Γ.In A → Ok Γ → wp M Γ t (fun a _ s' => Q a s') (fun e _ s' => E e s') p s
def codeS (M : Model) (A : Around) (c : Code) (R : Result → Shared → Prop) (s : Shared) : Prop :=
  ∀ Γ p, Γ.code = c → Γ.Below A → OkB Γ.below → wpCode M Γ R p s

section
variable {α β : Type} {M : Model} {A : Around} {E : Value → Shared → Prop} {s : Shared} {env : Env}
theorem wpS_of {t : Sem α} {Q : α → Shared → Prop} (h : wpAny M A t Q E s) : wpS M A t Q E s := fun Γ p hΓ _ => h Γ p hΓ
theorem codeS_of {c : Code} {R : Result → Shared → Prop} (h : codeAny M A c R s) : codeS M A c R s := fun Γ p hc hΓ _ => h Γ p hc hΓ
theorem wpS_mono {t : Sem α} {Q Q' : α → Shared → Prop} {E' : Value → Shared → Prop} (h : wpS M A t Q E s) (hQ : ∀ a s, Q a s → Q' a s) (hE : ∀ e s, E e s → E' e s) : wpS M A t Q' E' s :=
  fun Γ p hΓ hO => Sem.wp_mono M Γ t (fun a _ s => hQ a s) (fun e _ s => hE e s) p s (h Γ p hΓ hO)
theorem wpS_bind {m : Sem α} {f : α → Sem β} {Q : β → Shared → Prop} (h : wpS M A m (fun a s' => wpS M A (f a) Q E s') E s) : wpS M A (m >>= f) Q E s := fun Γ p hΓ hO => by
  rw [Sem.wp_bind']
  exact Sem.wp_mono M Γ m (fun a p' s' h' => h' Γ p' hΓ hO) (fun _ _ _ h' => h') p s (h Γ p hΓ hO)
/-- a plain tree, then one of ours -/
theorem wpS_then {m : Sem α} {f : α → Sem β} {Q : β → Shared → Prop} (h : wpAny M A m (fun a s' => wpS M A (f a) Q E s') E s) : wpS M A (m >>= f) Q E s := wpS_bind (wpS_of h)
theorem wpS_pure {a : α} {Q : α → Shared → Prop} (h : Q a s) : wpS M A (pure a) Q E s := fun _ _ _ _ => h
theorem wpS_holding {vs : List Value} {m : Sem α} {Q : α → Shared → Prop} (h : wpS M A m Q E s) : wpS M A (holding vs m) Q E s :=
  fun Γ p hΓ hO => by rw [Sem.wp_holding]; exact h Γ p hΓ hO
theorem wpS_onRaise {m : Sem α} {k : Value → Sem Unit} {Q : α → Shared → Prop} (h : wpS M A m Q (fun e s' => wpAny M A (k e) (fun _ s'' => E e s'') E s') s) : wpS M A (m.onRaise k) Q E s := fun Γ p hΓ hO => by
  rw [Sem.wp_onRaise]
  exact Sem.wp_mono M Γ m (fun _ _ _ h' => h') (fun e p' s' h' => h' Γ p' hΓ) p s (h Γ p hΓ hO)
theorem okB_enter {Γ : Ctx} {p : Pos} (hO : Ok Γ) : OkB ((Γ.code, p) :: Γ.below) := fun x hx => by
  rcases List.mem_cons.mp hx with rfl | hx
  · exact hO.1
  · exact hO.2 x hx
theorem wpS_run {c : Code} {h : Option Value} {Q : Flow → Shared → Prop} (hc : codeS M (A.mark h) c (fun r s' => match r with | .ok f => Q f s' | .error e => E e s') s) (hnb : h ≠ some byPass := by intro x; cases x) :
    wpS M A (run c h) Q E s := fun Γ p hΓ hO => by rw [Sem.wp_run]; exact hc _ p rfl (hΓ.enter c h p hnb) (okB_enter hO)
theorem wpS_call {f : Value} {pos : List Value} {kw : List (Str × Value)} {Q : Value → Shared → Prop}
    (hc : codeS M A (.call f ⟨pos, kw⟩) (fun r s' => match r with | .ok (.ret v) => Q v s' | .ok _ => False | .error e => E e s') s) : wpS M A (call f pos kw) Q E s :=
  fun Γ p hΓ hO => by
    show wp M Γ (runValue (.call f ⟨pos, kw⟩)) _ _ p s
    rw [Sem.wp_runValue]; exact hc _ p rfl (hΓ.enter _ none p (by intro x; cases x)) (okB_enter hO)
theorem codeS_mono {c : Code} {R R' : Result → Shared → Prop} (h : codeS M A c R s) (hR : ∀ r s, R r s → R' r s) : codeS M A c R' s :=
  fun Γ p hc hΓ hO => wpCode_mono hR (h Γ p hc hΓ hO)
theorem codeS_of_tree {c : Code} {R : Result → Shared → Prop} (hok : okC c = true)
    (h : wpS M (A.under c) (M.den c) (fun fin s' => match fin with | .done f => R (.ok f) s' | .again c' => c'.quiet = true ∧ codeS M A c' R s') (fun e s' => R (.error e) s') s) : codeS M A c R s := fun Γ p hc hΓ hO => by
  rw [wpCode_iff_wp, hc]
  refine Sem.wp_mono M Γ _ (fun fin p' s' h' => ?_) (fun _ _ _ h' => h') p s (h Γ p (hc ▸ hΓ.in) ⟨hc ▸ hok, hO⟩)
  cases fin with
  | done f => exact h'
  | again c' => exact ⟨h'.1, h'.2 (Γ.goto c') p' rfl (hΓ.goto c') hO⟩
theorem codeS_loop {c : Code} {R : Result → Shared → Prop} (hq : c.quiet = true) (hok : okC c = true) (I : Nat → Shared → Prop)
    (turn : ∀ n s, I n s → wpS M (A.under c) (M.den c) (fun fin s' => match fin with | .done f => R (.ok f) s' | .again c' => (c' = c ∧ ∃ m, m < n ∧ I m s') ∨ (c'.quiet = true ∧ codeS M A c' R s')) (fun e s' => R (.error e) s') s)
    (n : Nat) (h : I n s) : codeS M A c R s := by
  induction n using Nat.strongRecOn generalizing s with
  | ind n ih =>
    refine codeS_of_tree hok (wpS_mono (turn n s h) (fun fin s' hf => ?_) fun _ _ h' => h')
    cases fin with
    | done f => exact hf
    | again c' =>
      rcases hf with ⟨rfl, m, hm, hI⟩ | hf
      · exact ⟨hq, ih m hm hI⟩
      · exact hf

/-! the statements -/
theorem wpS_execs_cons {st rest} {Q : Flow → Shared → Prop} (h : wpS M A (exec st env) (fun f s' => match f with | .next => wpS M A (execs rest env) Q E s' | f => Q f s') E s) :
    wpS M A (execs (st :: rest) env) Q E s := by
  rw [execs_cons]
  refine wpS_bind (wpS_mono h (fun f s' h' => ?_) fun _ _ x => x)
  cases f <;> first | exact h' | exact wpS_pure h'
theorem wpS_execs_nil {Q : Flow → Shared → Prop} (h : Q .next s) : wpS M A (execs [] env) Q E s := wpS_of (wpAny_execs_nil h)
theorem wpS_Assign_Name {x pos' value pos} {Q : Flow → Shared → Prop}
    (h : wpS M A (eval value env) (fun v s₁ => wpAny M A (storeName env x v) (fun _ => Q .next) E s₁) E s)
    (hs : swapsWith value (some (.Name x pos')) pos.line env = pure false := by rfl) : wpS M A (exec (.Assign [.Name x pos'] value pos) env) Q E s := by
  rw [exec_Assign_Name env x pos' value pos hs]
  refine wpS_then (wpAny_standAt (wpS_bind (wpS_mono h (fun v s₁ h₁ => ?_) fun _ _ x => x)))
  exact wpS_of (wpAny_bind (wpAny_standAt (wpAny_bind (wpAny_bindName (wpAny_mono h₁ (fun _ _ y => wpAny_pure y) fun _ _ x => x)))))
theorem wpS_Assign_Tuple {elts k tpos value pos} {Q : Flow → Shared → Prop}
    (h : wpS M A (eval value env) (fun v s₁ => wpAny M A (assign (.Tuple elts k tpos) env v) (fun _ => Q .next) E s₁) E s)
    (hs : swapsWithSole [.Tuple elts k tpos] value pos.line env = pure false := by rfl)
    (hw : swappedStores [.Tuple elts k tpos] value env = pure none := by rfl) : wpS M A (exec (.Assign [.Tuple elts k tpos] value pos) env) Q E s := by
  rw [exec_Assign]
  refine wpS_then (wpAny_standAt ?_)
  rw [hs]
  refine wpS_then (wpAny_pure ?_)
  rw [if_neg (by decide)]
  refine wpS_bind (wpS_mono h (fun v s₁ h₁ => wpS_of ?_) fun _ _ x => x)
  rw [hw]
  refine wpAny_bind (wpAny_pure ?_)
  show wpAny M A (do assignAll v [assign (.Tuple elts k tpos) env]; pure .next) Q E s₁
  exact wpAny_bind (wpAny_mono h₁ (fun _ _ x => wpAny_pure x) fun _ _ x => x)
theorem wpS_If {test body orelse pos} {Q : Flow → Shared → Prop}
    (h : wpAny M A (isTrue test env (eval test env)) (fun b s₂ => if b = true then wpS M A (execs body env) Q E s₂ else wpS M A (execs orelse env) Q E s₂) E s) : wpS M A (exec (.If test body orelse pos) env) Q E s := by
  rw [exec_If]
  refine wpS_then (wpAny_standAt (wpS_then (wpAny_mono h (fun b s₂ h₂ => ?_) fun _ _ x => x)))
  cases b <;> exact h₂
/-! displays and calls -/
theorem wpS_spliced_nil {Q : List Value → Shared → Prop} {pos : Pos} (h : Q [] s) : wpS M A (spliced (backTo pos (starEach [] env))) Q E s := wpS_of (args_nil h)
theorem wpS_spliced_cons {e : Expr} {rest : List Expr} {pos : Pos} {Q : List Value → Shared → Prop}
    (h : wpS M A (eval e env) (fun v s₁ => wpS M A (spliced (backTo pos (starEach rest env))) (fun vs s₂ => Q (v :: vs) s₂) E s₁) E s)
    (he : starEach (e :: rest) env = (false, eval e env) :: starEach rest env := by rfl) : wpS M A (spliced (backTo pos (starEach (e :: rest) env))) Q E s := by
  rw [he]
  show wpS M A (spliced ((false, eval e env) :: backTo pos (starEach rest env))) Q E s
  rw [spliced]
  refine wpS_bind (wpS_mono h (fun v s₁ h₁ => ?_) fun _ _ x => x)
  simp only [Bool.false_eq_true, if_false]
  exact wpS_then (wpAny_pure (wpS_bind (wpS_holding (wpS_mono h₁ (fun vs s₂ h₂ => wpS_pure h₂) fun _ _ x => x))))
theorem wpS_List {elts : List Expr} {pos : Pos} {Q : Value → Shared → Prop}
    (h : wpS M A (spliced (backTo pos (starEach elts env))) (fun vs s₁ => wpAny M A (newList vs) Q E s₁) E s) : wpS M A (eval (.List elts pos) env) Q E s := by
  show wpS M A (do standAt pos; newList (← spliced (backTo pos (starEach elts env)))) Q E s
  exact wpS_then (wpAny_standAt (wpS_bind (wpS_mono h (fun _ _ x => wpS_of x) fun _ _ x => x)))
theorem wpS_Tuple {elts : List Expr} {k : Nat} {pos : Pos} {Q : Value → Shared → Prop}
    (h : wpS M A (spliced (backTo pos (starEach elts env))) (fun vs s₁ => wpAny M A (newTuple vs) Q E s₁) E s) : wpS M A (eval (.Tuple elts k pos) env) Q E s := by
  show wpS M A (do standAt pos; newTuple (← spliced (backTo pos (starEach elts env)))) Q E s
  exact wpS_then (wpAny_standAt (wpS_bind (wpS_mono h (fun _ _ x => wpS_of x) fun _ _ x => x)))
theorem wpS_keep {vs : List Value} {m : Sem α} {Q : α → Shared → Prop} (h : wpS M A m Q E s) : wpS M A (m.keep vs) Q E s :=
  fun Γ p hΓ hO => by rw [Sem.wp_keep]; exact h Γ p hΓ hO
theorem wpS_Call {func : Expr} {args : List Expr} {pos : Pos} {Q : Value → Shared → Prop}
    (h : wpAny M A (eval func env) (fun f s₁ => wpS M A (callWith pos f [] (backTo pos (starEach args env)) []) Q E s₁) E s)
    (he : eval (.Call func args [] pos) env = (do callWith pos (← eval func env) [] (backTo pos (starEach args env)) (backToKw pos (keywordEach [] env))) := by rfl) :
    wpS M A (eval (.Call func args [] pos) env) Q E s := by
  rw [he]; exact wpS_then h
theorem wpS_callWith {f : Value} {pos : Pos} {P : Heap → Prop} {e : Expr} {rest : List Expr} {Q : Value → Shared → Prop}
    (hk : ∀ h, P h → ∃ k, (k = Keeper.frame ∨ k = Keeper.machine) ∧ Looks M h (keeperOf f) k)
    (h : wpAny M A (spliced (backTo pos (starEach (e :: rest) env))) (fun vs s₁ => P s₁.heap ∧ wpS M A (call f vs) Q E s₁) E s)
    (he : starEach (e :: rest) env = (false, eval e env) :: starEach rest env := by rfl) (hplain : (backTo pos (starEach rest env)).any (·.1) = false := by rfl) :
    wpS M A (callWith pos f [] (backTo pos (starEach (e :: rest) env)) []) Q E s := by
  rw [he] at h ⊢
  unfold callWith
  refine wpS_then (wpAny_holding (Calls.evalArgs_plain (wpAny_mono h (fun vs s₁ h₁ => ?_) fun _ _ x => x)))
  refine wpS_then (wpAny_standAt ?_)
  obtain ⟨k, hk', L⟩ := hk _ h₁.1
  have hp : ((backTo pos ((false, eval e env) :: starEach rest env)).any (·.1) || ([] : List (Option Str × Sem Value)).any (·.1.isNone)) = false := by
    show ((false || (backTo pos (starEach rest env)).any (·.1)) || false) = false
    rw [hplain]; rfl
  have tail : ∀ {t : Sem Value}, wpS M A t Q E s₁ → wpS M A (t >>= fun r => holding [r] point >>= fun _ => pure r) Q E s₁ :=
    fun ht => wpS_bind (wpS_mono ht (fun r s₂ hr => wpS_of (wpAny_bind (wpAny_holding (wpAny_point (wpAny_pure hr))))) fun _ _ x => x)
  have marked (mk : Value) : wpS M A (callMarked mk f vs []) Q E s₁ := by unfold callMarked; exact wpS_keep h₁.2
  simp only [hp]
  refine wpS_then (L.here ?_)
  rcases hk' with rfl | rfl <;> dsimp only <;> first | exact tail h₁.2 | (split <;> first | exact tail h₁.2 | exact tail (marked _))
end

abbrev Never : Value → Shared → Prop := fun _ _ => False
section
variable {prog : Program} {w : World} {A A₀ : Around} {E : Value → Shared → Prop} {s : Shared} {K : Frag} {L : Addr} {h₀ base : Heap} {m mg mb : Str → Option Value} {news : List (Addr × Obj)} {p : Program} {loose : List Str} {mean : ExcName → Option Value} {R : Result → Shared → Prop}
theorem wpS_never {α : Type} {M : Model} {t : Sem α} {Q : α → Shared → Prop} (h : wpS M A t Q Never s) : wpS M A t Q E s := wpS_mono h (fun _ _ x => x) fun _ _ x => x.elim
theorem wpA_never {α : Type} {M : Model} {t : Sem α} {Q : α → Shared → Prop} (h : wpAny M A t Q Never s) : wpAny M A t Q E s := wpAny_mono h (fun _ _ x => x) fun _ _ x => x.elim

theorem codeS_func {body : List Stmt} {env : Env} (h : wpS (model prog w) (A.deeper env) (execs body env) (fun f s' => R (.ok (.ret (match f with | .ret v => v | _ => .none))) s') Never s) :
    codeS (model prog w) A (.func body env) R s := by
  refine codeS_of_tree rfl ?_
  show wpS _ (A.deeper env) (do point; match ← (execs body env).onRaise (leaving env) with | .ret v => ret v | _ => ret .none) _ _ s
  refine wpS_then (wpAny_point (wpS_bind (wpS_onRaise (wpS_mono h (fun f s' h' => ?_) fun _ _ x => x.elim))))
  cases f <;> exact wpS_pure h'

theorem codeS_def {env : Env} {outer : List Env} {name qual : Str} {params : Arguments} {body : List Stmt} {scope : Scope} {dV kV doc pm cdv ct oc : Value} {an od : Option Addr} {osl : Array (Option Value)} {f : Addr} {args : Args} {binds : List (Str × Value)}
    (B : Below A₀ base outer h₀) (F : Fr h₀ L s.heap m) (X₀ : K.In h₀) (N : News h₀ L s.heap news) (T : Top p loose mean mg mb h₀) (hA : A.frames = some (env :: outer)) (hf : env.frame = some L) (hke : env.scope.kind = .function)
    (ho : K.lookup f = some ⟨oc, od, .func (fnOf name qual params body scope dV kV doc pm an cdv ct), osl⟩) (hcd : codeIn K cdv qual = true) (hroom : A.depth < recursionLimit)
    (hbind : BindsTo s (fnOf name qual params body scope dV kV doc pm an cdv ct) args binds) (hloc : ∀ y ∈ binds, scope.names.lookup y.1 = some .local)
    (h : ∀ g L' h₁, Fr h₀ L g m → Fr g L' h₁ (fun y => binds.reverse.lookup y) → News g L' h₁ news → Below A base (env :: outer) g → K.In g → Top p loose mean mg mb g → (∀ q ∈ news, q.1 < L') →
      wpS (model prog w) (A.deeper (envOf qual scope L' f cdv)) (execs body (envOf qual scope L' f cdv))
        (fun fl s' => LeaveK h₀ L m g R (match fl with | .ret v => v | _ => .none) s') Never { s with heap := h₁, toks := s.toks + binds.length })
    (hco : scope.isCoroutine = false) (hgen : scope.isGenerator = false) (hk : scope.kind = .function)
    (hcell : ∀ x ∈ scope.names, x.2 ≠ .cell) : codeS (model prog w) A (.call (.ref f) args) R s := by
  obtain ⟨FG, BG, st, lv⟩ := groundX (R := R) B F N hA hf hke
  have hXs := X₀.keeps F.keep
  have hcr := codeRec_of hXs hcd
  have hos := hXs _ _ ho
  have hlim := T.nolimit.keeps F.keep
  refine codeS_of_tree rfl ?_
  show wpS _ A.in1 (callAny (.ref f) args) _ _ s
  simp only [callAny]
  refine wpS_then (wpAny_load hos ?_)
  obtain ⟨c, occ, vs, tq, hc, hoc, hdc, hq⟩ := hcr
  simp only [callFunction, hco, hgen]
  subst hc
  refine wpS_then (m := field (.ref c) 1) (wpAny_field hoc hdc hq (wpS_then (wpAny_pure ?_)))
  refine wpS_then (hbind _ _ _ _ ?_)
  refine wpS_then (wpAny_newFunctionEnv hcell hloc (fun h₁ hns hsb => ?_) hk)
  refine wpS_then (wpAny_enterFrame (hlim.fresh _ hsb) hroom (wpS_pure ⟨rfl, codeS_func ?_⟩))
  have hk₁ : ∀ b o, s.heap.get? b = some o → h₁.get? b = some o := fun b o e => hsb.extBut b o (Nat.ne_of_lt (Heap.lt_size e)) (Heap.get?_push_of_some _ e)
  refine wpS_mono (h _ s.heap.objs.size h₁ FG ⟨hns, fun b o e => hk₁ b o (of_hideAll _ e), Nat.le_of_eq (hideAll_size _ _)⟩
    (fun q hq' => ⟨hk₁ _ _ (N q hq').1, Nat.ne_of_lt (Heap.lt_size (N q hq').1), hideAll_none _ (List.mem_map_of_mem hq')⟩) BG (X₀.keeps st) (T.keeps st) (fun q hq' => Heap.lt_size (N q hq').1)) (fun fl s' hl => lv _ _ hl) fun _ _ x => x
end
end Mine
end
section
open PySem PySem.W PyProof.Rows PySem.Calls
open Sem (wp)
set_option Elab.async false
set_option maxRecDepth 100000
namespace Mine
/-- the caller's own stack holds nothing -/
theorem ok_caller : Ok (⟨.builtin "claim.caller" {}, none, none, [], none⟩ : Ctx) := ⟨by decide +kernel, fun x hx => by cases hx⟩
theorem thread_ends_S {prog : Program} {w : World} {t : Sem Fin} {s : Shared} {R : Result → Shared → Prop} (hreg : s.asleep)
    (h : wpS (model prog w) callerA t (fun fin s' => ∃ f, fin = .done f ∧ (R (.ok f) s' ∧ leftWithCleanup s'.gens = false)) (fun e s' => R (.error e) s' ∧ leftWithCleanup s'.gens = false) s) :
    ∃ n r s' s'', runN (denote table) prog w n s ⟨t, .builtin "claim.caller" {}, default, []⟩ = .halted (outcomeOf r) s' ∧
      schedN (denote table) prog w n (.single s ⟨t, .builtin "claim.caller" {}, default, []⟩) = .halted (outcomeOf r) s' ∧ s'.forget = s''.forget ∧ R r s'' := by
  have h' := h _ default caller_in ok_caller
  obtain ⟨n, r, s₁, s₂, hs, hn, hfo, hR⟩ := wp_halts_full (M := model prog w) (R := R) hreg (p := default)
    (Sem.wp_mono (model prog w) _ t (fun fin p' s' hf => by obtain ⟨f, rfl, hf⟩ := hf; exact hf) (fun _ _ _ x => x) default s h')
  exact ⟨n, r, s₂, s₁, hn, hs, hfo, hR⟩
theorem callFrom_S {c : ClaimW} {tree : List Value → Sem Fin} {w : World} {s : Shared} {free : Addr → Prop} {gens : Prop} {kept : Heap → Prop} (hz : s.asleep) (hgens : s.gens = #[])
    (hspec : ∀ args, c.pre args = true → WData.layableAll args = true →
      ∀ ord : List DictEntry → List DictEntry, (∀ l, (ord l).Perm l) →
      ∃ vs s₁, layAllW c.records (classAt s.heap) w.params ord args s = some (vs, s₁) ∧
        wpS (model c.prog w) callerA (tree vs) (fun fin s' => ∃ f, fin = .done f ∧ (c.Ends s args vs s₁ (.ok f) s' ∧ s'.os = s.os ∧ AllBare s'.gens ∧ kept s'.heap))
          (fun e s' => c.Ends s args vs s₁ (.error e) s' ∧ s'.os = s.os ∧ AllBare s'.gens ∧ kept s'.heap) s₁) :
    c.CallFrom (fun vs => ⟨tree vs, .builtin "claim.caller" {}, default, []⟩) w free gens kept s := by
  intro args hpre hlay ord hord
  obtain ⟨vs, s₁, hlaid, hcode⟩ := hspec args hpre hlay ord hord
  have rest := layAllW_rest _ _ _ hlaid
  have bare : ∀ {s' : Shared}, AllBare s'.gens → leftWithCleanup s'.gens = false := fun b => leftWithCleanup_false_of_bare b
  have ends := thread_ends_S (prog := c.prog) (w := w) (t := tree vs) (s := s₁) (R := fun r s' => c.Ends s args vs s₁ r s' ∧ s'.os = s.os ∧ kept s'.heap)
    (Shared.asleep_of_life rest.2.2.2 hz)
    (wpS_mono hcode (fun fin s' hx => ⟨hx.choose, hx.choose_spec.1, ⟨hx.choose_spec.2.1, hx.choose_spec.2.2.1, hx.choose_spec.2.2.2.2⟩, bare hx.choose_spec.2.2.2.1⟩) fun e s' hx => ⟨⟨hx.1, hx.2.1, hx.2.2.2⟩, bare hx.2.2.1⟩)
  obtain ⟨k, r, s', s'', hrun, hsched, hfo, hcase, hos, hkp⟩ := ends
  obtain ⟨eh, _, _, eo, _⟩ := Shared.forget_eq hfo
  have hcase := hcase.congr eh
  rw [← eh] at hkp
  rw [← eo] at hos
  have hlife : s'.heap.life = s.heap.life := (runN_life _ _ _ hrun).trans rest.2.2.2
  refine ⟨vs, s₁, hlaid, k, _, s', hsched, ?_, (fun _ i x hx => by rw [hgens] at hx; simp at hx), hkp, by rw [hlife], Shared.rest_eq hos⟩
  rcases hcase with ⟨v, rfl, d1, d2, d3, d4, d5⟩ | ⟨e, ob, cls, rfl, d1, d2, d3, d4, d5⟩
  · exact .inl ⟨v, rfl, d1, d2, d3, fun b o y _ => d4 b o y, d5⟩
  · exact .inr ⟨e, ob, cls, rfl, d1, d2, d3, d4, fun b o y _ => d5 b o y⟩

/-- what the walk has to show: the call, at the contexts that hold no bytearray -/
abbrev WalkS (q : Program) (loose : List Str) (XP : (Str → Option Value) → Heap → Prop) (YP : World → Heap → Prop) (r : RowW) (d : DefRec) (kwd : List (Str × Expr)) : Prop :=
  ∀ (w : World) (s₀ s₁ : Shared) (mg mb : Str → Option Value), Ground q loose r.records XP w s₀ mg mb s₁.heap → YP w s₁.heap → ∀ (a : Addr) (o : Obj) (pm cd doc dV kV : Value), s₁.heap.get? a = some o →
    o.data = .func { docDef d.name d.params d.body d.scope pm cd doc with defaults := dV, kwdefaults := kV } → s₁.heap.CodeRec cd d.name → Dflts mg s₁.heap d.params kwd dV kV → mg d.name = some (.ref a) → s₁.gens = #[] →
    ∀ (args : List WData) (vals : List Value) (as : List Addr), r.claim.pre args = true → WData.layableAll args = true → ReadsAllW r.records (classAt s₀.heap) s₁.heap vals args as → WellAll w.params s₁.heap vals args → (∀ a ∈ as, (a == sysModules) = false) →
      wpS (model r.prog w) callerA (PySem.call (.ref a) vals) (fun v s' => GoodWG r.claim (classAt s₀.heap) (ExcName.means s₀.heap) args s₁ (.ok (.ret v)) s')
        (fun e s' => GoodWG r.claim (classAt s₀.heap) (ExcName.means s₀.heap) args s₁ (.error e) s') s₁

theorem PySem.W.holds_open {r : OpenRow} {q : Program} {loose : List Str} {Xt : Shared → Bool} {XP : (Str → Option Value) → Heap → Prop} {α : Type} {Yf : Shared → α} {Ya : World → α} {YP : World → Heap → Prop} {d : DefRec} {kwd : List (Str × Expr)} {N : Nat}
    (left : LeftO r.prog q loose Xt Yf Ya N) (hY : ∀ w s, Yf s = Ya w → YP w s.heap) (hYk : ∀ w h h', YP w h → (∀ b o, h.get? b = some o → h'.get? b = some o) → YP w h')
    (hX : ∀ s, Xt s = true → XP (s.heap.nsMap mainGlobals) s.heap) (hXk : ∀ mg h h', XP mg h → (∀ b o, h.get? b = some o → h'.get? b = some o) → XP mg h')
    (hdef : defOf q r.name = some (d, kwd)) (hp : r.prog.theDef r.name = some (d.params, d.body, d.scope)) (hk : kwWritten? d.params.kwonlyargs d.params.kw_defaults = some kwd) (hRf : ∀ s, Xt s = true → RecFacts r.records s.heap) (hwr : (!r.writes || r.records.isEmpty) = true)
    (k1 : r.wellSaid = true) (ok : (chainsOk q && opensWell r.prog && (frees r.toRowW && r.within.isEmpty)) = true) (hb : r.prog.bare) (hw : r.toRowW.promised)
    (call : WalkS q loose XP YP r.toRowW d kwd) : r.Holds := by
  simp only [Bool.and_eq_true] at ok
  obtain ⟨⟨hch, o1⟩, k5, k6⟩ := ok
  obtain ⟨hsame, hu, ha, hap, hm⟩ := frees_parts k5
  have hi := ident_freeW hu ha hap
  have hwi : r.toRowW.claim.within = [] := List.isEmpty_iff.mp k6
  refine ⟨k1, hw, ⟨⟨hb, o1, by show r.toRowW.makers.map _ = []; rw [hm]; rfl⟩, hw.witness, fun w => ⟨(left.behind hX hch w).1, fun s' hs' => ?_⟩⟩⟩
  obtain ⟨s₀, hf, hg0, s, hT, hz, hgens, hg, G00, y⟩ := (left.behind (XP := fun mg h => XP mg h ∧ RecFacts r.records h) (fun s hs => ⟨hX s hs, hRf s hs⟩) hch w).2 s' hs'
  have G0 : Ground q loose [] XP w s (s.heap.nsMap mainGlobals) (s.heap.nsMap builtinsNs) s.heap := ⟨G00.T, G00.B, G00.D, G00.TE, G00.TD, G00.W, G00.X.1, G00.cls, G00.has, G00.apart, G00.once, G00.K⟩
  have RF := G00.X.2
  have hT' := hT
  have hgens : s.gens = #[] := Array.eq_empty_of_size_eq_zero (beq_iff_eq.mp hgens)
  have G : Ground q loose r.records XP w s _ _ s.heap := RF.ground G0
  refine ⟨s₀, hf, hg0, s, hT, (fun n hn => ?_), RF.1, RF.2.1, ?_⟩
  · obtain rfl : n = r.name := by split at hn <;> simp_all
    exact pinned_of_view hg G0 hdef hp hk
  refine callFrom_S (c := r.toRowW.claim) hz hgens fun args hpre hlay ord hord => ?_
  obtain ⟨⟨vs, s₁⟩, hlaid⟩ := Option.isSome_iff_exists.mp (layAllW_isSome (P := w.params) (ord := ord) G.has args r.args s (pre_splitW hpre).1)
  have keeps := layAllW_keeps _ _ _ hlaid
  have rest := layAllW_rest _ _ _ hlaid
  obtain ⟨as, hrd, hin, hold⟩ := reads_layAllW hord _ _ _ hlaid hlay s₁.heap (fun _ _ e => e)
  have L : Laid r.records w s s₁ args vs as := ⟨⟨ord, hord, hlaid⟩, hrd, hin, hold, keeps, rest.1.trans hgens, rest.2.2.1⟩
  have G₁ := G.keeps hXk keeps
  obtain ⟨a, o, pm, cd, doc, dV, kV, h1, h2, h3, h4, h5⟩ := G₁.fn hdef
  have hc := call w s s₁ _ _ G₁ (hYk _ _ _ (hY w s y) keeps) a o pm cd doc dV kV h2 h3 h4 h5 (defOf_name hdef ▸ h1) L.gens args vs as hpre hlay L.reads L.well (L.low G.low)
  refine ⟨vs, s₁, hlaid, wpS_then (wpAny_nsGet G₁.T.g ?_)⟩
  rw [h1]
  refine wpS_bind (wpS_mono hc (fun v s' g => wpS_pure ⟨_, rfl, ?_⟩) fun e s' g => ?_)
  all_goals
    have z := g.laid (c := r.toRowW.claim) hsame hwi hi L
    exact ⟨z.1, z.2.1, z.2.2, fun q => ⟨namesKept_of hT' hg _ keeps g.2.1.old, noTable hwr q⟩⟩
end Mine
end
section
open PySem PySem.W PyProof.Rows
set_option Elab.async false
set_option maxRecDepth 100000
set_option maxHeartbeats 8000000
namespace Mine
open_top hd for PySem.Challenge.rw_pg0078_01
end Mine
end
section
open PySem PySem.W PyProof.Rows
set_option Elab.async false
set_option maxRecDepth 100000
set_option maxHeartbeats 8000000
namespace Mine

def subCost (x y : Str) : Int := if x = y then 0 else if Txt.lower x = Txt.lower y then 1 else 2

theorem sub_call {w : World} {mean : ExcName → Option Value} {mg mb : Str → Option Value} {news : List (Addr × Obj)} (x : Str) (tx : Tok) (y : Str) (ty : Tok) (hx : x.length ≤ 100) (hy : y.length ≤ 100) :
   CbClaim (Challenge.rw_pg0078_01.row.prog) w (Mine.hd.heap_39 w.params) Mine.hd.view_39 (looseW Mine.hd.view_39 []) mean mg mb 21 news [] True [.str x tx, .str y ty] (fun t => .int (subCost x y) t) := by
  w_on
  k_fill
  dsimp only [CbClaim, CbLists, CbRet]; intros; rename_i hret; refine wpAny_call ?_; k_dflt cell_enter
  k_steps
  all_goals (k_with "tree" => (simp only [subCost, beq_iff_eq, beq_eq_false_iff_ne, ne_eq] at *; simp_all; done))
  all_goals cb_end hret

theorem sub_rule {w : World} {mean : ExcName → Option Value} {mg mb : Str → Option Value} {news : List (Addr × Obj)} {x y : Str} {tx ty : Tok}
    {dp un : Nat} {gd : Option (List Code)} {cn : Str} {cs : Scope} {a : Addr} {ccd : Value} {cl : List (Str × Addr)} {outer : List Env} {A₀ : Around} {base h₀ : Heap} {L : Addr} {m : Str → Option Value} {s : Shared} {Q E : Value → Shared → Prop}
    (B : Below A₀ base outer h₀) (F : Fr h₀ L s.heap m) (X : Frag.In (Mine.hd.heap_39 w.params) h₀) (N : News h₀ L s.heap news) (T : Top Mine.hd.view_39 (looseW Mine.hd.view_39 []) mean mg mb h₀) (hk : cs.kind = .function)
    (hx : x.length ≤ 100) (hy : y.length ≤ 100) (hd : dp + 1 < recursionLimit) (hu : un + 8 < cLine)
    (hret : ∀ (t : Tok) (h' : Heap) (tk' : Nat), Fr h₀ L h' m → News h₀ L h' news → Q (.int (subCost x y) t) { s with heap := h', toks := tk' }) :
    wpAny (model Challenge.rw_pg0078_01.row.prog w) (ktrTop dp un gd cn cs L a ccd cl outer) (call (.ref 21) [.str x tx, .str y ty]) Q E s :=
  sub_call x tx y ty hx hy dp un gd cn cs a ccd cl outer A₀ base h₀ L m s Q E B F X N T hk trivial hd hu hret
end Mine
end
section
open PySem PySem.W PyProof.Rows
namespace Mine
def bigI : Int := 9223372036854775807

def levIn : Int → Int → Int → List Int → List Int → List Int × Int × Int
  | d, r, m, c :: cs, x :: xs =>
    let r' := min (min r x + 2) (d + c)
    let o := levIn x r' (if r' < m then r' else m) cs xs
    (r' :: o.1, o.2.1, o.2.2)
  | _, r, m, _, _ => ([], r, m)

def levOut (mx : Int) : Int → Int → List Int → List (List Int) → Int
  | _, r, _, [] => r
  | k, _, row, cs :: rest =>
    let o := levIn k k bigI cs row
    if o.2.2 > mx then mx + 1 else levOut mx (k + 2) o.2.1 o.1 rest

def costRow (x c : Str) (n : Nat) : List Int := (List.range n).map fun (i : Nat) => subCost c (Txt.item x (i : Int))
def costs (x y : Str) (n : Nat) : List (List Int) := (List.range n).map fun (j : Nat) => costRow x (Txt.item y (j : Int)) n

theorem costRow_length (x c : Str) (n : Nat) : (costRow x c n).length = n := by simp [costRow]
theorem costs_length (x y : Str) (n : Nat) : (costs x y n).length = n := by simp [costs]
theorem costRow_drop {x c : Str} {n i : Nat} (h : i < n) : (costRow x c n).drop i = subCost c (Txt.item x (i : Int)) :: (costRow x c n).drop (i + 1) := by
  rw [List.drop_eq_getElem_cons (by rw [costRow_length]; exact h)]
  simp [costRow]
theorem costs_drop {x y : Str} {n i : Nat} (h : i < n) : (costs x y n).drop i = costRow x (Txt.item y (i : Int)) n :: (costs x y n).drop (i + 1) := by
  rw [List.drop_eq_getElem_cons (by rw [costs_length]; exact h)]
  simp [costs]

/-- the inner loop's word: what is left gives what the whole gives -/
def InvIn (x bc : Str) (n : Nat) (k : Int) (row0 : List Int) (i : Nat) (d r m : Int) (row : List Int) : Prop :=
  levIn k k bigI (costRow x bc n) row0 = (row.take i ++ (levIn d r m ((costRow x bc n).drop i) (row.drop i)).1, (levIn d r m ((costRow x bc n).drop i) (row.drop i)).2)

theorem invIn_start {x bc : Str} {n : Nat} {k : Int} {row0 : List Int} : InvIn x bc n k row0 0 k k bigI row0 := by
  unfold InvIn
  simp

theorem invIn_step {x bc : Str} {n : Nat} {k : Int} {row0 : List Int} {i : Nat} {d r m e : Int} {row : List Int} (hi : i < n) (hl : row.length = n) (he : row[i]? = some e) (h : InvIn x bc n k row0 i d r m row)
    {r' m' : Int} (hr : r' = min (min r e + 2) (d + subCost bc (Txt.item x (i : Int)))) (hm : m' = if r' < m then r' else m) : InvIn x bc n k row0 (i + 1) e r' m' (row.set i r') := by
  unfold InvIn at h ⊢
  rw [h]
  have hil : i < row.length := by omega
  have hei : row[i] = e := by
    rw [List.getElem?_eq_getElem hil] at he; exact Option.some.inj he
  rw [costRow_drop hi, List.drop_eq_getElem_cons hil, hei]
  have e1 : (row.set i r').take (i + 1) = row.take i ++ [r'] := by
    apply List.ext_getElem?
    intro j
    rcases Nat.lt_trichotomy j i with h1 | h1 | h1
    · rw [List.getElem?_append_left (by rw [List.length_take]; omega), List.getElem?_take_of_lt (by omega), List.getElem?_set_ne (by omega), List.getElem?_take_of_lt h1]
    · subst h1
      rw [List.getElem?_append_right (by rw [List.length_take]; omega), List.getElem?_take_of_lt (by omega), List.getElem?_set_self hil, List.length_take, Nat.min_eq_left (by omega)]
      simp
    · rw [List.getElem?_eq_none (by rw [List.length_take, List.length_set]; omega), List.getElem?_eq_none (by rw [List.length_append, List.length_take]; simp; omega)]
  have e2 : (row.set i r').drop (i + 1) = row.drop (i + 1) := by
    rw [List.drop_set_of_lt (by omega)]
  rw [e1, e2]
  simp only [levIn]
  subst hr hm
  simp

theorem invIn_end {x bc : Str} {n : Nat} {k : Int} {row0 : List Int} {d r m : Int} {row : List Int} (hl : row.length = n) (h : InvIn x bc n k row0 n d r m row) : levIn k k bigI (costRow x bc n) row0 = (row, r, m) := by
  unfold InvIn at h
  rw [h, List.drop_of_length_le (by rw [costRow_length]; exact Nat.le_refl _), List.take_of_length_le (by omega)]
  simp [levIn]

/-- the outer loop's word -/
def InvOut (x y : Str) (n : Nat) (mx : Int) (row0 : List Int) (j : Nat) (r : Int) (row : List Int) : Prop :=
  levOut mx 0 0 row0 (costs x y n) = levOut mx (2 * (j : Int)) r row ((costs x y n).drop j)

theorem invOut_start {x y : Str} {n : Nat} {mx : Int} {row0 : List Int} : InvOut x y n mx row0 0 0 row0 := by
  unfold InvOut; simp

theorem invOut_step {x y : Str} {n : Nat} {mx : Int} {row0 : List Int} {j : Nat} {r : Int} {row : List Int} (hj : j < n) (h : InvOut x y n mx row0 j r row) {k r' m' : Int} {row' : List Int} (hk : k = 2 * (j : Int))
    (hin : levIn k k bigI (costRow x (Txt.item y (j : Int)) n) row = (row', r', m')) (hm : ¬ m' > mx) : InvOut x y n mx row0 (j + 1) r' row' := by
  unfold InvOut at h ⊢
  rw [h, costs_drop hj]
  subst hk
  simp only [levOut, hin, if_neg hm]
  have : (2 : Int) * (j : Int) + 2 = 2 * ((j + 1 : Nat) : Int) := by omega
  rw [this]

theorem invOut_stop {x y : Str} {n : Nat} {mx : Int} {row0 : List Int} {j : Nat} {r : Int} {row : List Int} (hj : j < n) (h : InvOut x y n mx row0 j r row) {k r' m' : Int} {row' : List Int} (hk : k = 2 * (j : Int))
    (hin : levIn k k bigI (costRow x (Txt.item y (j : Int)) n) row = (row', r', m')) (hm : m' > mx) : mx + 1 = levOut mx 0 0 row0 (costs x y n) := by
  unfold InvOut at h
  rw [h, costs_drop hj]
  subst hk
  simp only [levOut, hin, if_pos hm]

theorem invOut_end {x y : Str} {n : Nat} {mx : Int} {row0 : List Int} {r : Int} {row : List Int} (h : InvOut x y n mx row0 n r row) : r = levOut mx 0 0 row0 (costs x y n) := by
  unfold InvOut at h
  rw [h, List.drop_of_length_le (by rw [costs_length]; exact Nat.le_refl _)]
  simp [levOut]


theorem invIn_stepR {x bc : Str} {n : Nat} {K : Int} {row0 pre : List Int} {k d r m : Int} {row : List Int} {R M : Int} (hx : x.length = n) (hk : k = 0 + (pre.length : Int)) (hlt : pre.length < ((x.length : Int) - 0).toNat) (hl : row.length = n)
    (h : InvIn x bc n K row0 pre.length d r m row)
    (hR : R = if d + subCost bc (Txt.item x k) < (if row.getD k.toNat 0 < r then row.getD k.toNat 0 else r) + 2 then d + subCost bc (Txt.item x k) else (if row.getD k.toNat 0 < r then row.getD k.toNat 0 else r) + 2)
    (hM : M = if R < m then R else m) :
    (row.set k.toNat R).length = n ∧ InvIn x bc n K row0 (pre ++ [k]).length (row.getD k.toNat 0) R M (row.set k.toNat R) := by
  have e1 : k = ((pre.length : Nat) : Int) := by omega
  have e2 : k.toNat = pre.length := by omega
  have hi : pre.length < n := by omega
  refine ⟨by rw [List.length_set]; exact hl, ?_⟩
  rw [List.length_append, List.length_singleton, e2]
  have e3 : row[pre.length]? = some (row.getD pre.length 0) := by
    rw [List.getD_eq_getElem?_getD, List.getElem?_eq_getElem (by omega)]; rfl
  refine invIn_step hi hl e3 h ?_ hM
  rw [hR, e2, e1]
  generalize row.getD pre.length 0 = e
  generalize subCost bc (Txt.item x _) = c
  simp only [Int.min_def]
  split <;> split <;> split <;> (try split) <;> omega
theorem invIn_stepA {x bc : Str} {n : Nat} {K : Int} {row0 pre : List Int} {k d r m : Int} {row : List Int} {R : Int} (hx : x.length = n) (hk : k = 0 + (pre.length : Int)) (hlt : pre.length < ((x.length : Int) - 0).toNat) (hl : row.length = n)
    (h : InvIn x bc n K row0 pre.length d r m row)
    (hR : R = if d + subCost bc (Txt.item x k) < (if row.getD k.toNat 0 < r then row.getD k.toNat 0 else r) + 2 then d + subCost bc (Txt.item x k) else (if row.getD k.toNat 0 < r then row.getD k.toNat 0 else r) + 2)
    (hM : R < m) :
    (row.set k.toNat R).length = n ∧ InvIn x bc n K row0 (pre ++ [k]).length (row.getD k.toNat 0) R R (row.set k.toNat R) :=
  invIn_stepR hx hk hlt hl h hR (by rw [if_pos hM])
theorem invIn_stepB {x bc : Str} {n : Nat} {K : Int} {row0 pre : List Int} {k d r m : Int} {row : List Int} {R : Int} (hx : x.length = n) (hk : k = 0 + (pre.length : Int)) (hlt : pre.length < ((x.length : Int) - 0).toNat) (hl : row.length = n)
    (h : InvIn x bc n K row0 pre.length d r m row)
    (hR : R = if d + subCost bc (Txt.item x k) < (if row.getD k.toNat 0 < r then row.getD k.toNat 0 else r) + 2 then d + subCost bc (Txt.item x k) else (if row.getD k.toNat 0 < r then row.getD k.toNat 0 else r) + 2)
    (hM : ¬ R < m) :
    (row.set k.toNat R).length = n ∧ InvIn x bc n K row0 (pre ++ [k]).length (row.getD k.toNat 0) R m (row.set k.toNat R) :=
  invIn_stepR hx hk hlt hl h hR (by rw [if_neg hM])
theorem invOut_stepA {x y : Str} {n N : Nat} {mx : Int} {row0 pre : List Int} {k r0 : Int} {row : List Int} (hx : x.length = n) (hy : y.length = n) (hk : k = 0 + (pre.length : Int)) (hlt : pre.length < ((y.length : Int) - 0).toNat)
    (h : InvOut x y n mx row0 pre.length r0 row) {d r m : Int} {row' : List Int} (hl : row'.length = n) (hin : InvIn x (Txt.item y k) n (k * 2) row N d r m row') (hN : N = n) (hm : ¬ m > mx) :
    row'.length = n ∧ InvOut x y n mx row0 (pre ++ [k]).length r row' := by
  subst hN
  have e1 : k = ((pre.length : Nat) : Int) := by omega
  refine ⟨hl, ?_⟩
  rw [List.length_append, List.length_singleton]
  have := invIn_end hl hin
  rw [e1] at this
  exact invOut_step (by omega) h (by omega) this hm
theorem invOut_stopA {x y : Str} {n N : Nat} {mx : Int} {row0 pre : List Int} {k r0 : Int} {row : List Int} (hx : x.length = n) (hy : y.length = n) (hk : k = 0 + (pre.length : Int)) (hlt : pre.length < ((y.length : Int) - 0).toNat)
    (h : InvOut x y n mx row0 pre.length r0 row) {d r m : Int} {row' : List Int} (hl : row'.length = n) (hin : InvIn x (Txt.item y k) n (k * 2) row N d r m row') (hN : N = n) (hm : m > mx) :
    mx + 1 = levOut mx 0 0 row0 (costs x y n) := by
  subst hN
  have e1 : k = ((pre.length : Nat) : Int) := by omega
  have := invIn_end hl hin
  rw [e1] at this
  exact invOut_stop (by omega) h (by omega) this hm
theorem invOut_endA {x y : Str} {n N : Nat} {mx : Int} {row0 : List Int} {r : Int} {row : List Int} (h : InvOut x y n mx row0 N r row) (hN : N = n) : r = levOut mx 0 0 row0 (costs x y n) := by
  subst hN; exact invOut_end h
theorem item_le (x : Str) (i : Int) : (Txt.item x i).length ≤ 100 := by show 1 ≤ 100; decide
theorem lev_small {x : Str} {n : Nat} (hx : x.length = n) (hn : n ≤ 12) : Builtin.Range.small 2 (2 * ((x.length : Int) + 1)) 2 = true := by
  rw [hx]
  have : ∀ n : Nat, n < 13 → Builtin.Range.small 2 (2 * ((n : Int) + 1)) 2 = true := by decide +kernel
  exact this n (by omega)
theorem lev_size {x : Str} {n : Nat} (hx : x.length = n) (hn : n ≤ 12) : Builtin.Range.rangeSize 2 (2 * ((x.length : Int) + 1)) 2 = (n : Int) := by
  rw [hx]
  have : ∀ n : Nat, n < 13 → Builtin.Range.rangeSize 2 (2 * ((n : Int) + 1)) 2 = (n : Int) := by decide +kernel
  exact this n (by omega)
end Mine
end
section
open PySem PySem.W PyProof.Rows
set_option Elab.async false
set_option maxRecDepth 100000
namespace Mine
theorem slice_nn (x : Str) : Txt.slice x none none = x := by
  have h : (Builtin.Str.strSliceIndices none none 1 x.length).length = x.length := by
    rw [StrLaws.sliceIdx_none_lo, StrLaws.sliceIdx_none_hi]
    have := StrLaws.strSliceIndices_plain (a := 0) (b := x.length) (len := x.length) (Nat.zero_le _) (Nat.le_refl _)
    simp only [Int.natCast_zero] at this
    erw [this]
    simp
  unfold Txt.slice
  simp [h]
theorem slice_0n (x : Str) : Txt.slice x (some 0) none = x := by
  have h := slice_nn x
  unfold Txt.slice at h ⊢
  rw [StrLaws.sliceIdx_none_lo] at h
  exact h
section
variable {prog : Program} {w : World} {A : Around} {E : Value → Shared → Prop} {s : Shared} {h₀ : Heap} {L : Addr} {m : Str → Option Value} {news : List (Addr × Obj)} {x : Str} {t : Tok} {value slice : Expr} {Q : Value → Shared → Prop}
theorem slice_all_nn (hF : Fr h₀ L s.heap m) (hN : News h₀ L s.heap news) (h : ∀ h' t' k, Fr h₀ L h' m → News h₀ L h' news → Q (.str x t') { s with heap := h', toks := k })
    (hs : subscripted slice false (.str x t) (.ref s.heap.objs.size) = operate [.ref s.heap.objs.size, .str x t] (getItem (.str x t) (.ref s.heap.objs.size)) := by with_unfolding_all rfl)
    (ht : ∀ r, letTemporaryGo value (.str x t) r = pure () := by intro _; with_unfolding_all rfl) (hsz : x.length ≤ sizeLine := by size_fits) :
    wpAny (model prog w) A (subscriptTail value slice (.str x t) (.ref s.heap.objs.size)) Q E { s with heap := s.heap.push { cls := .type "slice", data := .fields #[.none, .none, .none] } } :=
  slice_strN_nn hF hN (fun h' t' k a b => by rw [slice_nn]; exact h h' t' k a b) hs ht hsz
theorem slice_all_0n {ui : Tok} (hF : Fr h₀ L s.heap m) (hN : News h₀ L s.heap news) (h : ∀ h' t' k, Fr h₀ L h' m → News h₀ L h' news → Q (.str x t') { s with heap := h', toks := k })
    (hs : subscripted slice false (.str x t) (.ref s.heap.objs.size) = operate [.ref s.heap.objs.size, .str x t] (getItem (.str x t) (.ref s.heap.objs.size)) := by with_unfolding_all rfl)
    (ht : ∀ r, letTemporaryGo value (.str x t) r = pure () := by intro _; with_unfolding_all rfl) (hsz : x.length ≤ sizeLine := by size_fits) :
    wpAny (model prog w) A (subscriptTail value slice (.str x t) (.ref s.heap.objs.size)) Q E { s with heap := s.heap.push { cls := .type "slice", data := .fields #[.int 0 ui, .none, .none] } } :=
  slice_strN_sn (i := 0) hF hN (fun h' t' k a b => by rw [slice_0n]; exact h h' t' k a b) hs ht hsz

theorem intsAre_of_get : ∀ (vs : List Value) (ns : List Int), vs.length = ns.length → (∀ (j : Nat) v, vs[j]? = some v → ∃ t n, ns[j]? = some n ∧ v = .int n t) → IntsAre vs ns
  | [], [], _, _ => .nil
  | v :: vs, n :: ns, hl, h => by
    obtain ⟨t, n', e, rfl⟩ := h 0 v rfl
    cases e
    exact .cons n t (intsAre_of_get vs ns (by simpa using hl) fun j v hv => h (j + 1) v hv)
  | [], _ :: _, hl, _ => by cases hl
  | _ :: _, [], hl, _ => by cases hl

theorem list_range_K {r : Addr} {a b c : Int} {t u v : Tok} {n : Nat} (hh : A.handled = none) (F : Fr h₀ L s.heap m) (N : News h₀ L s.heap news)
    (hr : IsRange s.heap r a b c t u v) (hsmall : Builtin.Range.small a b c = true) (hn : Builtin.Range.rangeSize a b c = (n : Int)) (hlen : n ≤ 2 ^ 24)
    (h : ∀ l h' tk ys c', Fr h₀ L h' m → News h₀ L h' ((l, listOf ys.toArray c') :: news) → OwnOff news [l] → IntsAre ys (rangeInts a c n) → Q (.ref l) { s with heap := h', toks := tk }) :
    wpAny (model prog w) A (call (.type "list") [.ref r]) Q E s := by
  refine call_list_range hh hr hsmall hn hlen fun h' tk acc' c' hk hS' hacc => ?_
  refine h s.heap.objs.size h' tk acc'.toList c' (F.keeps hk) (news_pushed F N hk (by simpa using hS') rfl) ?_ ?_
  · intro p hp b hb e
    rw [List.mem_singleton.mp hb] at e
    exact absurd (Heap.lt_size (N p hp).1) (by rw [e]; exact Nat.lt_irrefl _)
  · refine intsAre_of_get _ _ (by simp [hacc.1, rangeInts_length]) fun j v hv => ?_
    have hv' : acc'[j]? = some v := by simpa using hv
    obtain ⟨tk, rfl⟩ := hacc.2 j v hv'
    have hj : j < n := by
      have := (Array.getElem?_eq_some_iff.mp hv').1
      rw [hacc.1] at this; exact this
    exact ⟨tk, _, rangeInts_get hj, rfl⟩
end
end Mine
end
section
open PySem PySem.W PyProof.Rows
set_option Elab.async false
set_option maxRecDepth 100000
set_option maxHeartbeats 8000000
namespace Mine
local macro_rules | `(tactic| walk_at "exec While BoolOp cons nil") => `(tactic| (k_here; k_dflt (refine whl_start 100 ?_)))
local macro_rules | `(tactic| walk_at "subscriptTail Name Slice str ref") => `(tactic| ((with_reducible rename Fr _ _ _ _ => F'); (with_reducible rename News _ _ _ _ => N'); (refine slice_all_0n (hsz := ?hsz) (s := ⟨_, _, _, _, _⟩) F' N' ?_); (case hsz => (rw [sizeLine_eq]; omega)); intro _ _ _ _ _; (try dsimp only); (try k_sweep)))
local macro_rules | `(tactic| walk_at "subscriptTail Name Slice str ref") => `(tactic| ((with_reducible rename Fr _ _ _ _ => F'); (with_reducible rename News _ _ _ _ => N'); (refine slice_all_nn (hsz := ?hsz) (s := ⟨_, _, _, _, _⟩) F' N' ?_); (case hsz => (rw [sizeLine_eq]; omega)); intro _ _ _ _ _; (try dsimp only); (try k_sweep)))
local macro_rules | `(tactic| walk_at "truthy str") => `(tactic| ((with_reducible show wpAny _ _ (PySem.truthy (Value.str _ _)) _ _ _); (refine' KXt.truthy_pos (K := 12) ?a ?b ?c ?_); (case a => omega); (case b => omega); (case c => decide); intro _))
local macro_rules | `(tactic| kst_mem) => `(tactic| (with_reducible first | assumption | (apply List.mem_append.mpr; apply Or.inl; assumption) | (apply List.Mem.tail; kst_mem) | (apply List.mem_append.mpr; apply Or.inr; kst_mem)))
local macro_rules | `(tactic| kst_allIn) => `(tactic| (first | (with_reducible apply List.forall_mem_nil) | ((with_reducible apply List.forall_mem_cons.mpr); constructor; (with_unfolding_all k_memK); kst_allIn) | (intro p9 h9; kst_mem)))
local macro_rules | `(tactic| walk_at "InvEndN") => `(tactic| (k_dflt kst_close))
theorem lev_rule {w : World} {mean : ExcName → Option Value} {mg mb : Str → Option Value} {news : List (Addr × Obj)} {x y : Str} {tx ty tm : Tok} {mx : Int} {n : Nat}
    {dp un : Nat} {gd : Option (List Code)} {cn : Str} {cs : Scope} {a : Addr} {ccd : Value} {cl : List (Str × Addr)} {outer : List Env} {A₀ : Around} {base h₀ : Heap} {L : Addr} {m : Str → Option Value} {s : Shared} {Q E : Value → Shared → Prop}
    (B : Below A₀ base outer h₀) (F : Fr h₀ L s.heap m) (X : Frag.In (Mine.hd.heap_39 w.params) h₀) (N : News h₀ L s.heap news) (T : Top Mine.hd.view_39 (looseW Mine.hd.view_39 []) mean mg mb h₀) (hk : cs.kind = .function)
    (h1 : 1 ≤ n) (hn : n ≤ 12) (hx : x.length = n) (hy : y.length = n) (hxy : (x == y) = false)
    (hf0 : (Txt.item x 0 == Txt.item y 0) = false) (hf1 : (Txt.item x (0 - 1) == Txt.item y (0 - 1)) = false)
    (h0 : 0 ≤ mx) (hd : dp + 3 < recursionLimit) (hu : un + 20 < cLine)
    (hret : ∀ (t : Tok) (h' : Heap) (tk' : Nat), Fr h₀ L h' m → News h₀ L h' news → Q (.int (levOut mx 0 0 (rangeInts 2 2 n) (costs x y n)) t) { s with heap := h', toks := tk' }) :
    wpAny (model Challenge.rw_pg0078_01.row.prog w) (ktrTop dp un gd cn cs L a ccd cl outer) (call (.ref 28) [.str x tx, .str y ty, .int mx tm]) Q E s := by
  w_on
  revert X; k_fill; intro X
  k_with_none
  k_with "call type:list cons nil" => (k_here; (rename IsRange _ _ _ _ _ _ _ _ => R'); (rename Fr _ _ _ _ => F'); (rename News _ _ _ _ => N'); (k_dflt (refine' list_range_K (n := n) ?_ F' N' R' ?_ ?_ ?_ ?_)); exact rfl; exact lev_small hx hn; exact lev_size hx hn; omega; (intro l' h' tk' ys' c' F' N' O' I'); (try dsimp only); (try k_sweep))
  k_with "pyIter ref" => (k_of "bindex" => k_state (fun pre result row => row.length = n ∧ InvOut x y n mx (rangeInts 2 2 n) pre.length result row) "result" "row")
  k_with "pyIter ref" => (k_of "index" => k_state_given ["bindex", "bchar", "row!"] (fun bi bc row0 pre d r m row => row.length = n ∧ InvIn x bc n (bi * 2) row0 pre.length d r m row) "distance" "result" "minimum" "row")
  k_with "state" => first | exact ⟨rangeInts_length _ _ _, invOut_start⟩ | exact ⟨by assumption, invIn_start⟩ | exact invIn_stepA hx kEq kLt (by assumption) (by assumption) rfl (by omega) | exact invIn_stepB hx kEq kLt (by assumption) (by assumption) rfl (by omega) | exact invOut_stepA hx hy kEq kLt (by assumption) (by assumption) (by assumption) (by rw [rangeKs_length]; omega) (by omega)
  k_with "call ref" => (k_here; k_dflt (refine' sub_rule ?k1 ?k2 ?k3 ?k4 ?k5 ?kK ?kx ?ky ?kd ?ku ?_; (case k1 => k_asm); (case k2 => k_asm); (case k3 => k_asm); (case k4 => k_asm); (case k5 => k_asm); (case kK => exact rfl); (case kx => exact item_le _ _); (case ky => exact item_le _ _); (case kd => ktr_room); (case ku => ktr_units)); (intro t9 h9 tk9 F9 N9); (try dsimp only))
  refine wpAny_call ?_; k_dflt cell_enter
  k_steps
  · exact cb_retI hret (invOut_stopA hx hy kEq kLt (by assumption) (by assumption) (by assumption) (by rw [rangeKs_length]; omega) (by omega)) (by k_asm) (cb_drop (by assumption) fun p hp => List.mem_cons_of_mem _ (List.mem_append_left _ hp))
  · exact cb_retI hret (invOut_endA (by assumption) (by rw [rangeKs_length]; omega)) (by k_asm) (cb_drop (by assumption) fun p hp => List.mem_cons_of_mem _ hp)
end Mine
end
section
open PySem PySem.W PyProof.Rows
open Sem (wp)
set_option Elab.async false
set_option maxRecDepth 100000
namespace Mine
section
variable {prog : Program} {w : World} {A : Around} {E : Value → Shared → Prop} {s : Shared} {h₀ : Heap} {env : Env} {R : Result → Shared → Prop}

theorem codeS_forLoop {target : Expr} {it : Value} {body : List Stmt} (I : Nat → Shared → Prop)
    (turn : ∀ n s, I n s → wpAny (model prog w) A (pyNext it) (fun r s₁ => match r with
      | none => R (.ok .next) s₁
      | some v => wpAny (model prog w) A (assign target env v) (fun _ s₂ => wpS (model prog w) A (execs body env) (fun f s₃ => match f with
          | .next | .cont => ∃ m, m < n ∧ I m s₃
          | .brk => R (.ok .next) s₃
          | .ret v => R (.ok (.ret v)) s₃) Never s₂) Never s₁) Never s)
    (n : Nat) (h : I n s) (ht : ∀ v, letOwnedTupleGo target it v = pure () := by intro _; rfl) : codeS (model prog w) A (.forLoop target it body [] env) R s := by
  refine codeS_loop rfl rfl I (fun n s hI => ?_) n h
  show wpS _ A ((forTurn target it body [] env).onRaise (fun x => do noteFrame x env; theTreesLotGoes x)) _ _ s
  refine wpS_onRaise (wpS_mono (E := Never) (Q := fun fin s' => match fin with | .done f => R (.ok f) s' | .again c' => (c' = .forLoop target it body [] env ∧ ∃ m, m < n ∧ I m s') ∨ (c'.quiet = true ∧ codeS (model prog w) A c' R s')) ?_ (fun _ _ x => x) fun _ _ x => x.elim)
  simp only [forTurn]
  refine wpS_then (wpAny_standAt (wpS_then (wpAny_onRaise (wpAny_mono (turn n s hI) (fun r s₁ h₁ => ?_) fun _ _ x => x.elim))))
  cases r with
  | none => exact wpS_pure (.inr ⟨rfl, codeS_of (codeAny_block (wpAny_execs_nil h₁))⟩)
  | some v =>
    refine wpS_then (wpAny_of_eq (ht v) ?_)
    refine wpS_then (wpAny_mono h₁ (fun _ s₂ h₂ => wpS_bind (wpS_mono h₂ (fun f s₃ h₃ => ?_) fun _ _ x => x)) fun _ _ x => x)
    cases f with
    | next => exact wpS_pure (.inl ⟨rfl, h₃⟩)
    | cont => exact wpS_pure (.inl ⟨rfl, h₃⟩)
    | brk => exact wpS_pure h₃
    | ret v => exact wpS_pure h₃

theorem wpS_For_range {x : Str} {px pos : Pos} {iter : Expr} {body : List Stmt} {Q : Flow → Shared → Prop}
    (hx : env.kindOf x = some .local) (hp : (env.scope.kind == .class || (env.scope.kind == .module && env.locals != env.globals)) = false) (hh : A.handled = none)
    (h : wpAny (model prog w) A (eval iter env) (fun xv s₁ => ∃ (r : Addr) (a b : Int) (t u v : Tok) (n : Nat) (m₀ : Str → Option Value) (news : List (Addr × Obj)) (J : Nat → (Str → Option Value) → Prop),
      xv = .ref r ∧ IsRange s₁.heap r a b 1 t u v ∧ Builtin.Range.small a b 1 = true ∧ Builtin.Range.rangeSize a b 1 = (n : Int) ∧ Fr h₀ env.locals s₁.heap m₀ ∧ News h₀ env.locals s₁.heap news ∧ J 0 m₀ ∧
      (∀ i t m₁ hp tk own, i < n → J i m₁ → Fr h₀ env.locals hp (fun y => if y = x then some (.int (a + (i : Int)) t) else m₁ y) → News h₀ env.locals hp (own ++ news) → OwnOff own (news.map (·.1)) →
        wpS (model prog w) A (execs body env) (InvPost h₀ env.locals (J (i + 1)) (own ++ news) { s₁ with heap := hp, toks := tk } Q) Never { s₁ with heap := hp, toks := tk }) ∧
      (∀ m₁ hp tk, J n m₁ → Fr h₀ env.locals hp m₁ → News h₀ env.locals hp news → Q .next { s₁ with heap := hp, toks := tk })) Never s)
    (hs : ∀ x, foldedSetIterable iter env x = pure x := by intro _; rfl) : wpS (model prog w) A (exec (.For (.Name x px) iter body [] pos) env) Q Never s := by
  rw [exec_For]
  refine wpS_then (wpAny_standAt (wpS_then (wpAny_mono h (fun xv s₁ h₁ => ?_) fun _ _ x => x)))
  obtain ⟨r, a, b, t, u, v, n, m₀, news, J, rfl, hr, hsmall, hn, F, N, hj, turn, done⟩ := h₁
  refine wpS_then (wpAny_of_eq (hs _) (wpS_then (wpAny_standAt (wpS_then (wpAny_holding (wpAny_pyIter_range hr hsmall ?_))))))
  unfold runOwn
  refine wpS_onRaise (wpS_run (codeS_mono (R := fun r s' => match r with | .ok f => Q f s' | .error _ => False) ?_ fun r s' hR => by cases r with | ok f => exact hR | error e => exact hR.elim))
  have W := Walks.range (prog := prog) (w := w) (A := A) hh s₁.heap.objs.size a 1 n
  generalize hI : s₁.heap.objs.size = I at W ⊢
  have hLI : env.locals ≠ I := fun e => absurd F.ns.lt (by rw [e, hI]; exact Nat.lt_irrefl _)
  have hnew : h₀.get? I = none := by rw [← hI]; exact next_is_new F
  have hNI : ∀ q ∈ news, q.1 ≠ I := fun q hq e => absurd (Heap.lt_size (N q hq).1) (by rw [e, hI]; exact Nat.lt_irrefl _)
  refine codeS_forLoop (fun k s' => ∃ h' tk m' i, s' = { s₁ with heap := h', toks := tk } ∧ IsRangeIter h' I (a + (i : Nat) * 1) ((n : Int) - (i : Nat)) 1 ∧ Fr h₀ env.locals h' m' ∧ News h₀ env.locals h' news ∧ J i m' ∧ i ≤ n ∧ k = n + 1 - i) ?_ (n + 1)
    ⟨_, _, m₀, 0, rfl, (by show IsRangeIter _ _ _ _ _; rw [hn, ← hI]; simpa using Heap.get?_push_size _ rfl), F.push _, (fun q hq => ⟨Heap.get?_push_of_some _ (N q hq).1, (N q hq).2⟩), hj, Nat.zero_le _, rfl⟩
  rintro k s' ⟨h', tk, m', i, rfl, hst, F', N', hJ, hi, rfl⟩
  have next : ∀ h₁ : Heap, (∀ b o, b ∉ [I] → h'.get? b = some o → h₁.get? b = some o) → Fr h₀ env.locals h₁ m' ∧ News h₀ env.locals h₁ news := fun h₁ hk₁ =>
    ⟨⟨F'.ns.at' fun o e => hk₁ _ o (fun q => hLI (List.mem_singleton.mp q)) e, fun b o e => hk₁ b o (fun q => by rw [List.mem_singleton.mp q, hnew] at e; cases e) (F'.keep b o e), F'.above⟩,
      fun q hq => ⟨hk₁ _ _ (fun e => hNI q hq (List.mem_singleton.mp e)) (N' q hq).1, (N' q hq).2⟩⟩
  by_cases hlt : i < n
  · refine W.item i _ _ _ hlt hst fun v h₁ tk₁ hP hst₁ hk₁ => ?_
    obtain ⟨t, rfl⟩ := hP
    obtain ⟨F₁, N₁⟩ := next h₁ hk₁
    refine wpAny_assign_Name (wpAny_storeName_local hx F₁.ns (fun h₂ hn₂ hs₂ => ?_) hp)
    have F₂ := F₁.set hn₂ hs₂
    have N₂ := N₁.set hs₂
    have hst₂ : h₂.get? I = h₁.get? I := hs₂.2 I (fun e => hLI e.symm)
    obtain ⟨oI, hoI⟩ : ∃ o, h₁.get? I = some o := ⟨_, hst₁⟩
    have Nown : News h₀ env.locals h₂ ([(I, oI)] ++ news) := fun q hq => by
      rcases List.mem_append.mp hq with hq | hq
      · rw [List.mem_singleton.mp hq]; exact ⟨hst₂.trans hoI, fun e => hLI e.symm, hnew⟩
      · exact N₂ q hq
    have ht := turn i t m' h₂ (tk₁ + 1) [(I, oI)] hlt hJ (by
      have e1 : a + (i : Int) * 1 = a + (i : Int) := by omega
      rw [e1] at F₂; exact F₂) Nown (by
      intro q hq b hb e
      rw [List.mem_singleton.mp hq] at e
      obtain ⟨q', hq', rfl⟩ := List.mem_map.mp hb
      exact hNI q' hq' e.symm)
    refine wpS_mono ht (fun f s₃ h₃ => ?_) fun _ _ x => x
    have fin : InvEnd h₀ env.locals (J (i + 1)) ([(I, oI)] ++ news) { s₁ with heap := h₂, toks := tk₁ + 1 } s₃ → ∃ m, m < n + 1 - i ∧ ∃ h' tk m' i', s₃ = { s₁ with heap := h', toks := tk } ∧ IsRangeIter h' I (a + (i' : Nat) * 1) ((n : Int) - (i' : Nat)) 1 ∧ Fr h₀ env.locals h' m' ∧ News h₀ env.locals h' news ∧ J i' m' ∧ i' ≤ n ∧ m = n + 1 - i' := by
      clear h₃
      rintro ⟨h₃, tk₃, m₃, news₃, rfl, F₃, N₃, hn₃, hJ₃⟩
      refine ⟨n + 1 - (i + 1), by omega, h₃, tk₃, m₃, i + 1, rfl, ?_, F₃, fun q hq => N₃ q (hn₃ q (List.mem_append_right _ hq)), hJ₃, hlt, rfl⟩
      exact W.frame _ _ _ hst₁ fun b hb o e => by
        rw [List.mem_singleton.mp hb] at e ⊢
        rw [hoI] at e; cases e
        exact (N₃ _ (hn₃ _ (List.mem_append_left _ (List.mem_singleton.mpr rfl)))).1
    cases f with
    | ret v => exact h₃
    | brk => exact h₃
    | next => exact fin h₃
    | cont => exact fin h₃
  · have hin : i = n := by omega
    subst hin
    refine W.done _ _ _ hst fun h₁ tk₁ hk₁ => ?_
    obtain ⟨F₁, N₁⟩ := next h₁ hk₁
    exact done m' h₁ tk₁ hJ F₁ N₁
end
end Mine
end
section
open PySem PySem.W PyProof.Rows
open Sem (wp)
set_option Elab.async false
set_option maxRecDepth 100000
namespace Mine
theorem ba_mro : mroOf (.type "bytearray") = pure [.type "bytearray", .type "object"] := by rw [mroOf_type]; kernel_rfl
theorem ba_lookup_new : typeLookup (.type "bytearray") "__new__" = pure (some (.builtin "bytearray.__new__")) := by rw [typeLookup_type, builtinLookup_eq_fast]; kernel_rfl
theorem ba_slot_init : Slot "bytearray" "__init__" "bytearray.__init__" :=
  .of (owner := "bytearray") (n := "__init__") (by rw [typeLookup_type, builtinLookup_eq_fast]; kernel_rfl) (by decide +kernel) (by decide +kernel) (by decide +kernel)
    (by first | exact .inl (by decide +kernel) | exact .inr (by decide +kernel)) (by rw [isSubtype_type]; kernel_rfl)
theorem ba_slot_set : Slot "bytearray" "__setitem__" "bytearray.__setitem__" :=
  .of (owner := "bytearray") (n := "__setitem__") (by rw [typeLookup_type, builtinLookup_eq_fast]; kernel_rfl) (by decide +kernel) (by decide +kernel) (by decide +kernel)
    (by first | exact .inl (by decide +kernel) | exact .inr (by decide +kernel)) (by rw [isSubtype_type]; kernel_rfl)
theorem ba_called : TypeCalled "bytearray" "bytearray.__new__" "bytearray.__init__" :=
  ⟨by decide +kernel, by decide +kernel, ⟨_, _, ba_mro⟩, madeBy_type ba_mro ba_lookup_new (by decide +kernel), by decide +kernel, by rw [isSubtype_type]; kernel_rfl, ba_slot_init⟩
theorem ba_typeCall (a : Value) : checkTypeCall "bytearray" ⟨[a], []⟩ = pure () := by kernel_rfl
theorem ba_newCall (a : Value) : checkBuiltinCall "bytearray.__new__" ⟨[.type "bytearray", a], []⟩ = pure () := by kernel_rfl
theorem ba_entry_new : entryFor table "bytearray.__new__" = some Builtin.«list.__new__» := entryFor_alias (id' := "list.__new__") (by rw [fastTable_eq_tree]; kernel_rfl) (by decide +kernel) (by decide +kernel) (by rw [fastTable_eq_tree]; kernel_rfl)
theorem ba_entry_init : entryFor table "bytearray.__init__" = some Builtin.«bytearray.__init__» := by first | exact entryFor_of_fast (by kernel_rfl) | exact entryFor_of_tree (by kernel_rfl)
theorem ba_entry_set : entryFor table "bytearray.__setitem__" = some Builtin.«bytearray.__setitem__» := by first | exact entryFor_of_fast (by kernel_rfl) | exact entryFor_of_tree (by kernel_rfl)
theorem ba_plain_new : plainId "bytearray.__new__" = true := by decide +kernel
theorem ba_plain_init : plainId "bytearray.__init__" = true := by decide +kernel
theorem ba_plain_set : plainId "bytearray.__setitem__" = true := by decide +kernel
theorem ba_sub : isSubtype (.type "bytearray") (.type "bytearray") = pure true := by rw [isSubtype_type]; kernel_rfl
theorem ba_release : typeLookup (.type "bytearray") "__release_buffer__" = pure (some (.builtin "bytearray.__release_buffer__")) := by rw [typeLookup_type, builtinLookup_eq_fast]; kernel_rfl
theorem ba_buffer : typeLookup (.type "bytearray") "__buffer__" = pure (some (.builtin "bytearray.__buffer__")) := by rw [typeLookup_type, builtinLookup_eq_fast]; kernel_rfl
theorem ba_no_bytes : typeLookup (.type "bytearray") "__bytes__" = pure none := by rw [typeLookup_type, builtinLookup_eq_fast]; kernel_rfl
theorem ba_no_index : typeLookup (.type "bytearray") "__index__" = pure none := by rw [typeLookup_type, builtinLookup_eq_fast]; kernel_rfl
theorem int_index : typeLookup (.type "int") "__index__" = pure (some (.builtin "int.__index__")) := by rw [typeLookup_type, builtinLookup_eq_fast]; kernel_rfl
theorem ba_bind (v : Value) : Builtin.Bytes.bindOptional "bytearray.__init__" "bytearray" ["source", "encoding", "errors"] [v] [] = pure [some v, none, none] := by kernel_rfl
set_option maxRecDepth 1000000 in
set_option maxHeartbeats 4000000 in
theorem owner_ba_new : ("bytearray.__new__".splitOn ".__new__").headD "" = "bytearray" := by simp +decide [String.splitOn, String.splitOnAux]
abbrev baObj (b : Array UInt8) : Obj := { cls := .type "bytearray", data := .bytearray b }
section
variable {prog : Program} {w : World} {A : Around} {E : Value → Shared → Prop} {s : Shared}
theorem code_ba_new (a : Value) {Q₁ : Value → Shared → Prop}
    (h : Q₁ (.ref s.heap.objs.size) { s with heap := s.heap.push (baObj #[]) }) :
    codeAny (model prog w) A (.call (.builtin "bytearray.__new__") ⟨[.type "bytearray", a], []⟩) (wants Q₁ E) s := by
  refine codeAny_of_tree ?_
  show wpAny _ A.in1 (do checkBuiltinCall "bytearray.__new__" ⟨[.type "bytearray", a], []⟩; again (.builtin "bytearray.__new__" ⟨[.type "bytearray", a], []⟩)) _ _ s
  refine wpAny_bind (wpAny_of_eq (ba_newCall a) (wpAny_pure ⟨plainId_quiet ba_plain_new _, codeAny_builtin_stack ba_entry_new rfl fun p st => ?_⟩))
  rw [Around.under_plainId ba_plain_new _]
  have hsub := ba_sub
  have hown := owner_ba_new
  obtain ⟨hp, g, d, tk, os⟩ := s
  simp only [hown]
  wp_walk
  exact h
end
end Mine
end
section
open PySem PySem.W PyProof.Rows
open Sem (wp)
set_option Elab.async false
set_option maxRecDepth 100000
namespace Mine
section
variable {prog : Program} {w : World} {A : Around} {E : Value → Shared → Prop} {s : Shared} {R : Result → Shared → Prop}
theorem okC_good {id : String} {args : Args} (h : badId id = false) : okC (.builtin id args) = true := by simp only [okC, h]; rfl
theorem codeS_builtinA {id : String} {args : Args} {b : Builtin} (hb : entryFor table id = some b) (hok : okC (.builtin id args) = true)
    (h : wpS (model prog w) (A.under (.builtin id args)) (b args) (fun fin s' => match fin with | .done f => R (.ok f) s' | .again c' => c'.quiet = true ∧ codeS (model prog w) A c' R s') (fun e s' => R (.error e) s') s) :
    codeS (model prog w) A (.builtin id args) R s := by
  refine codeS_of_tree hok ?_
  show wpS _ _ (match entryFor table id with | some b => b args | none => unsupported ((withoutEnding? id "#data").getD id)) _ _ s
  rw [hb]; exact h
theorem codeS_builtin {id : String} {args : Args} {b : Builtin} (hb : entryFor table id = some b) (hq : plainId id = true) (hok : okC (.builtin id args) = true)
    (h : wpS (model prog w) A.in1 (b args) (fun fin s' => match fin with | .done f => R (.ok f) s' | .again c' => c'.quiet = true ∧ codeS (model prog w) A c' R s') (fun e s' => R (.error e) s') s) :
    codeS (model prog w) A (.builtin id args) R s := by
  refine codeS_of_tree hok ?_
  show wpS _ _ (match entryFor table id with | some b => b args | none => unsupported ((withoutEnding? id "#data").getD id)) _ _ s
  rw [hb, Around.under_plainId hq _]; exact h
theorem codeS_call_builtin {id : String} {args : Args} {b : Builtin} (hq : plainId id = true) (hb : entryFor table id = some b) (hok : okC (.builtin id args) = true)
    (h : wpAny (model prog w) A.in1 (checkBuiltinCall id args) (fun _ s₁ => wpS (model prog w) A.in1 (b args)
      (fun fin s' => match fin with | .done f => R (.ok f) s' | .again c' => c'.quiet = true ∧ codeS (model prog w) A c' R s') (fun e s' => R (.error e) s') s₁) (fun e s' => R (.error e) s') s) :
    codeS (model prog w) A (.call (.builtin id) args) R s := by
  refine codeS_of_tree rfl ?_
  show wpS _ A.in1 (do checkBuiltinCall id args; again (.builtin id args)) _ _ s
  exact wpS_then (wpAny_mono h (fun _ s₁ h₁ => wpS_pure ⟨plainId_quiet hq _, codeS_builtin hb hq hok h₁⟩) fun _ _ x => x)

theorem not_bad {id : String} {args : Args} (h : okC (.builtin id args) = true) (hb : badId id = true) : False := by
  simp only [okC, hb] at h; cases h
theorem wpS_exported {self : Value} {Q : Bool → Shared → Prop} {M : Model} (h : Q false s) : wpS M A (Builtin.Bytes.exported self) Q E s := fun Γ p _ hO => by
  unfold Builtin.Bytes.exported
  show Q (List.any ((Γ.code, p) :: Γ.below) _) s
  rw [List.any_eq_false.mpr]
  · exact h
  intro x hx
  have hok := okB_enter (p := p) hO x hx
  obtain ⟨c, q⟩ := x
  dsimp only at hok ⊢
  split
  · rename_i heq; cases heq; exact (not_bad hok (by decide +kernel)).elim
  · rename_i heq; cases heq; exact (not_bad hok (by decide +kernel)).elim
  · rename_i heq; cases heq; exact (not_bad hok (by decide +kernel)).elim
  · rename_i heq; cases heq; exact (not_bad hok (by decide +kernel)).elim
  · rename_i heq; cases heq; exact (not_bad hok (by decide +kernel)).elim
  · rename_i heq; cases heq
    simp only [okC, badId, Bool.not_eq_true', Bool.or_eq_false_iff] at hok
    rw [hok.1]; simp
  · simp

theorem wpS_ite_false {α : Type} {M : Model} {c : Bool} {a b : Sem α} {Q : α → Shared → Prop} (hc : c = false) (h : wpS M A b Q E s) : wpS M A (if c = true then a else b) Q E s := by
  subst hc; exact h
theorem wpS_ite_true {α : Type} {M : Model} {c : Bool} {a b : Sem α} {Q : α → Shared → Prop} (hc : c = true) (h : wpS M A a Q E s) : wpS M A (if c = true then a else b) Q E s := by
  subst hc; exact h
theorem wpS_neg {α : Type} {M : Model} {c : Prop} [Decidable c] {a b : Sem α} {Q : α → Shared → Prop} (hc : ¬ c) (h : wpS M A b Q E s) : wpS M A (if c then a else b) Q E s := by
  rw [if_neg hc]; exact h
theorem wpS_pos {α : Type} {M : Model} {c : Prop} [Decidable c] {a b : Sem α} {Q : α → Shared → Prop} (hc : c) (h : wpS M A a Q E s) : wpS M A (if c then a else b) Q E s := by
  rw [if_pos hc]; exact h
theorem ba_typeIs {a : Addr} {b : Array UInt8} (h : s.heap.get? a = some (baObj b)) : s.TypeIs (.ref a) "bytearray" := ⟨_, h, rfl⟩

theorem ba_ownRelease {M : Model} {a : Addr} {b : Array UInt8} {Q : Bool → Shared → Prop} (h : s.heap.get? a = some (baObj b)) (hQ : Q false s) : wpAny M A (Builtin.Bytes.ownRelease (.ref a)) Q E s := by
  unfold Builtin.Bytes.ownRelease Builtin.Bytes.slotIsOwn
  refine wpAny_bind (wpAny_bind (wpAny_specialOf (ba_typeIs h) ba_release ?_))
  show wpAny M A (if (!("bytearray.__release_buffer__".endsWith ("." ++ "__release_buffer__"))) = true then pure false else isInstance (.ref a) (.type ("bytearray.__release_buffer__".dropRight ("__release_buffer__".length + 1)))) _ E s
  refine bm_if_false (by decide +kernel) ?_
  have e : "bytearray.__release_buffer__".dropRight ("__release_buffer__".length + 1) = "bytearray" := by decide +kernel
  rw [e]
  exact wpAny_isInstance (ba_typeIs h) ba_sub (wpAny_pure hQ)
theorem ba_payload {M : Model} {a : Addr} {b : Array UInt8} {Q : Array UInt8 → Shared → Prop} (h : s.heap.get? a = some (baObj b)) (hQ : Q b s) : wpAny M A (Builtin.Bytes.payload (.ref a)) Q E s := by
  unfold Builtin.Bytes.payload Builtin.Bytes.payload?
  exact wpAny_bind (wpAny_bind (wpAny_load h (wpAny_pure (wpAny_pure hQ))))
theorem ba_write {M : Model} {a : Addr} {b : Array UInt8} {f : Array UInt8 → Array UInt8} {Q : Unit → Shared → Prop} (h : s.heap.get? a = some (baObj b)) (hf : (f b).size ≤ sizeLine)
    (hQ : Q () { s with heap := s.heap.update a (Obj.mapBytearray f) }) : wpAny M A (Builtin.Bytes.write (.ref a) f) Q E s := by
  show wpAny M A (updateBytearray a f) Q E s
  unfold updateBytearray
  refine wpAny_bind (wpAny_load h ?_)
  show wpAny M A (update a (Obj.mapBytearray f) >>= fun _ => lookBehind a) Q E s
  refine wpAny_bind (wpAny_update h ?_)
  refine wpAny_lookBehind (o := baObj (f b)) (Heap.get?_update_self (Obj.mapBytearray f) h rfl) ?_ hQ
  show (if (f b).size > sizeLine then some "bytearray:memory" else none) = none
  rw [if_neg (by omega)]
theorem ba_init_tree {a : Addr} {n : Int} {t : Tok} (h : s.heap.get? a = some (baObj #[])) (h0 : 0 < n) (h1 : n ≤ 100) {Q : Fin → Shared → Prop}
    (hQ : Q (.done (.ret .none)) { s with heap := (s.heap.update a (Obj.mapBytearray fun _ => #[])).update a (Obj.mapBytearray fun _ => Array.replicate n.toNat 0) }) :
    wpS (model prog w) A (Builtin.«bytearray.__init__» ⟨[.ref a, .int n t], []⟩) Q E s := by
  have hT := ba_typeIs h
  unfold Builtin.«bytearray.__init__»
  refine wpS_then (ba_ownRelease h ?_)
  refine wpS_ite_false rfl ?_
  refine wpS_then (wpAny_of_eq (ba_bind _) ?_)
  refine wpS_then (wpAny_of_eq (a := ()) rfl ?_)
  refine wpS_then (wpAny_of_eq (a := ()) rfl ?_)
  refine wpS_bind (wpS_bind (wpS_exported ?_))
  refine wpS_then (m := Builtin.Bytes.exportsOf (.ref a)) (wpAny_bind (wpAny_load h (wpAny_pure ?_)))
  refine wpS_pure ?_
  refine wpS_ite_false (by decide) ?_
  refine wpS_then (ba_write h (Nat.zero_le _) ?_)
  have h₁ : (s.heap.update a (Obj.mapBytearray fun _ => #[])).get? a = some (baObj #[]) := Heap.get?_update_self (Obj.mapBytearray fun _ => #[]) h rfl
  refine wpS_then (m := asStr? (.int n t)) (wpAny_of_eq (a := none) rfl ?_)
  refine wpS_ite_false rfl ?_
  refine wpS_then (wpAny_of_eq (a := ()) rfl ?_)
  refine wpS_then (wpAny_specialOf (typeIs_int _ _ _) int_index ?_)
  refine wpS_ite_true rfl ?_
  refine wpS_then (wpAny_attempt (wpAny_of_eq (a := n) rfl ?_))
  refine wpS_ite_false (c := !Builtin.Bytes.fitsIndex n) (by simp only [Builtin.Bytes.fitsIndex, Bool.not_eq_false', Bool.and_eq_true, decide_eq_true_eq]; omega) ?_
  refine wpS_neg (c := n < 0) (by omega) ?_
  refine wpS_ite_false (c := n == 2 ^ 63 - 1) (by rw [beq_eq_false_iff_ne]; omega) ?_
  refine wpS_ite_false (c := Builtin.Bytes.tooLong n.toNat) (by simp only [Builtin.Bytes.tooLong, sizeLine_eq, decide_eq_false_iff_not]; omega) ?_
  refine wpS_then (wpAny_rule ?_)
  refine wpS_pos (c := n > 0) h0 ?_
  refine wpS_then (ba_write h₁ (by rw [Array.size_replicate, sizeLine_eq]; omega) ?_)
  exact wpS_pure hQ

theorem wpS_bytearray {n : Int} {t : Tok} (h0 : 0 < n) (h1 : n ≤ 100) {Q : Value → Shared → Prop}
    (hQ : ∀ h', (∀ b o, s.heap.get? b = some o → h'.get? b = some o) → h'.get? s.heap.objs.size = some (baObj (Array.replicate n.toNat 0)) → Q (.ref s.heap.objs.size) { s with heap := h' }) :
    wpS (model prog w) A (call (.type "bytearray") [.int n t]) Q Never s := by
  refine wpS_call (codeS_of_tree rfl ?_)
  show wpS _ A.in1 (callAny (.type "bytearray") ⟨[.int n t], []⟩) _ _ _
  refine wpS_pure ⟨Code.quiet_builtin _ (by decide +kernel), ?_⟩
  refine codeS_builtinA F.entry_type_call (okC_good (by decide +kernel)) ?_
  rw [Around.under_plain (weight_type_call_type "bytearray" [.int n t] []) rfl]
  unfold Builtin.«type.__call__»
  refine wpS_ite_false (by decide) ?_
  refine wpS_ite_false (by decide +kernel) ?_
  refine wpS_then (wpAny_of_eq (ba_typeCall _) ?_)
  refine wpS_then (wpAny_of_eq ba_mro ?_)
  refine wpS_ite_false rfl ?_
  refine wpS_then (wpAny_of_eq ba_called.made ?_)
  refine wpS_then (m := pure (Value.builtin "bytearray.__new__")) (wpAny_pure ?_)
  refine wpS_then (wpAny_holding (wpAny_call (codeAny_mono (code_ba_new (E := Never) (.int n t) (Q₁ := fun obj s₁ => obj = .ref s.heap.objs.size ∧ s₁ = { s with heap := s.heap.push (baObj #[]) }) ⟨rfl, rfl⟩) fun r s₁ hr => ?_)))
  cases r with
  | error e => exact hr
  | ok fl =>
    cases fl with
    | ret obj =>
      obtain ⟨rfl, rfl⟩ := hr
      have h₁ : (s.heap.push (baObj #[])).get? s.heap.objs.size = some (baObj #[]) := Heap.get?_push_size _ rfl
      refine wpS_then (wpAny_isInstance (ba_typeIs (s := { s with heap := s.heap.push (baObj #[]) }) h₁) ba_sub ?_)
      refine wpS_ite_false rfl ?_
      refine wpS_bind (wpS_holding ?_)
      simp only [callSpecial?]
      refine wpS_then (wpAny_specialOf (ba_typeIs (s := { s with heap := s.heap.push (baObj #[]) }) h₁) ba_slot_init.lookup ?_)
      simp only [ba_slot_init.bind]
      refine wpS_holding (wpS_then (wpAny_pure (wpS_bind (wpS_call ?_))))
      refine codeS_call_builtin ba_plain_init ba_entry_init (okC_good (by decide +kernel)) ?_
      refine ba_slot_init.check _ _ _ _ _ _ _ _ (ba_typeIs (s := { s with heap := s.heap.push (baObj #[]) }) h₁) ?_ ?_
      · trivial
      refine ba_init_tree h₁ h0 h1 ?_
      have h₂ : ((s.heap.push (baObj #[])).update s.heap.objs.size (Obj.mapBytearray fun _ => #[])).get? s.heap.objs.size = some (baObj #[]) := Heap.get?_update_self (Obj.mapBytearray fun _ => #[]) h₁ rfl
      refine wpS_pure (wpS_ite_false rfl (wpS_pure (hQ _ (fun b o e => ?_) ?_)))
      · have hb : s.heap.objs.size ≠ b := fun q => absurd (Heap.lt_size e) (by rw [q]; exact Nat.lt_irrefl _)
        exact (Heap.get?_update_other _ _ hb).trans ((Heap.get?_update_other _ _ hb).trans (Heap.get?_push_of_some _ e))
      · exact Heap.get?_update_self (Obj.mapBytearray fun _ => Array.replicate n.toNat 0) h₂ rfl
    | _ => exact hr.elim
end
end Mine
end
section
open PySem PySem.W PyProof.Rows
open Sem (wp)
set_option Elab.async false
set_option maxRecDepth 100000
namespace Mine
section
variable {prog : Program} {w : World} {A : Around} {E : Value → Shared → Prop} {s : Shared} {h₀ : Heap} {L : Addr} {m : Str → Option Value} {news : List (Addr × Obj)}
theorem ba_set_tree {a : Addr} {b : Array UInt8} {i v : Int} {ti tv : Tok} (h : s.heap.get? a = some (baObj b)) (h0 : 0 ≤ i) (h1 : i < b.size) (hz : b.size ≤ 1000) (hv0 : 0 ≤ v) (hv1 : v < 256) {Q : Fin → Shared → Prop}
    (hQ : Q (.done (.ret .none)) { s with heap := s.heap.update a (Obj.mapBytearray (·.setIfInBounds i.toNat v.toNat.toUInt8)) }) :
    wpAny (model prog w) A (Builtin.«bytearray.__setitem__» ⟨[.ref a, .int i ti, .int v tv], []⟩) Q E s := by
  unfold Builtin.«bytearray.__setitem__»
  refine bm_if_false rfl ?_
  refine wpAny_bind (m := Builtin.Bytes.subscript? (.int i ti)) ?_
  unfold Builtin.Bytes.subscript?
  refine wpAny_bind (wpAny_specialOf (typeIs_int _ _ _) int_index ?_)
  refine bm_if_false rfl ?_
  refine wpAny_bind (wpAny_of_eq (a := i) rfl ?_)
  refine bm_if_false (c := !Builtin.Bytes.fitsIndex i) (by simp only [Builtin.Bytes.fitsIndex, Bool.not_eq_false', Bool.and_eq_true, decide_eq_true_eq]; omega) ?_
  refine wpAny_pure ?_
  refine wpAny_bind (m := Builtin.Bytes.byteValue (.int v tv)) ?_
  unfold Builtin.Bytes.byteValue
  refine wpAny_bind (wpAny_of_eq (a := v) rfl ?_)
  refine bm_if_false (by simp only [Bool.or_eq_false_iff, decide_eq_false_iff_not]; omega) ?_
  refine wpAny_pure ?_
  refine wpAny_bind (ba_payload h ?_)
  rw [StrLaws.seqIndex_nonneg h0 h1]
  refine wpAny_bind (ba_write h (by rw [Array.size_setIfInBounds, sizeLine_eq]; omega) ?_)
  exact wpAny_pure hQ
theorem ba_set {a : Addr} {b : Array UInt8} {i v : Int} {ti tv : Tok} (h : s.heap.get? a = some (baObj b)) (h0 : 0 ≤ i) (h1 : i < b.size) (hz : b.size ≤ 1000) (hv0 : 0 ≤ v) (hv1 : v < 256) {Q : Unit → Shared → Prop}
    (hQ : Q () { s with heap := s.heap.update a (Obj.mapBytearray (·.setIfInBounds i.toNat v.toNat.toUInt8)) }) :
    wpAny (model prog w) A (setItem (.ref a) (.int i ti) (.int v tv)) Q E s := by
  have hT := ba_typeIs h
  unfold setItem
  try with_reducible refine wpAny_holding ?_
  first | refine wpAny_bind (wpAny_pure ?_) | skip
  refine wpAny_bind (wpAny_sequenceKey hT (by decide) ?_)
  refine wpAny_bind (wpAny_callSpecial?_slot (name := Str.ofString "__setitem__") hT ba_slot_set (wpAny_call_entry ba_slot_set hT ba_entry_set ?_ (by first | rfl | kernel_rfl)))
  exact ba_set_tree h h0 h1 hz hv0 hv1 ⟨_, rfl, wpAny_pure hQ⟩
theorem ba_set_K {a : Addr} {b : Array UInt8} {i v : Int} {ti tv : Tok} {news' : List (Addr × Obj)} {Q : Unit → Shared → Prop} (F : Fr h₀ L s.heap m) (N : News h₀ L s.heap news) (U : Upd a (baObj b) (baObj (b.setIfInBounds i.toNat v.toNat.toUInt8)) news news')
    (h0 : 0 ≤ i) (h1 : i < b.size) (hz : b.size ≤ 1000) (hv0 : 0 ≤ v) (hv1 : v < 256)
    (h : ∀ h', Fr h₀ L h' m → News h₀ L h' news' → Q () { s with heap := h' }) : wpAny (model prog w) A (setItem (.ref a) (.int i ti) (.int v tv)) Q E s := by
  obtain ⟨pre, post, rfl, rfl, c, d⟩ := U.split
  have z := N (a, baObj b) (List.mem_append.mpr (.inr (.head _)))
  refine ba_set z.1 h0 h1 hz hv0 hv1 (h _ (F.change (Heap.SameBut.update ..) z.2.1 z.2.2) (news_set N c d (Heap.SameBut.update ..) ?_))
  exact Heap.get?_update_self (Obj.mapBytearray (·.setIfInBounds i.toNat v.toNat.toUInt8)) z.1 rfl

theorem bytes_new_ba {a : Addr} {b : Array UInt8} {Q : Value → Shared → Prop} (h : s.heap.get? a = some (baObj b)) (hz : b.size ≤ 1000)
    (hQ : ∀ t k, Q (.bytes b t) { s with toks := k }) :
    codeAny (model prog w) A (.call (.builtin "bytes.__new__") ⟨[.type "bytes", .ref a], []⟩) (wants Q E) s := by
  refine codeAny_of_tree ?_
  show wpAny _ A.in1 (do checkBuiltinCall "bytes.__new__" ⟨[.type "bytes", .ref a], []⟩; again (.builtin "bytes.__new__" ⟨[.type "bytes", .ref a], []⟩)) _ _ s
  refine wpAny_bind (wpAny_of_eq (F.bm_newCall _) (wpAny_pure ⟨plainId_quiet F.bm_plain _, codeAny_builtin F.bm_entry ?_⟩))
  rw [Around.under_plainId F.bm_plain _]
  have hT := ba_typeIs h
  unfold Builtin.«bytes.__new__»
  refine wpAny_bind (wpAny_of_eq (a := true) rfl ?_)
  refine bm_if_false rfl ?_
  refine wpAny_bind (wpAny_of_eq F.bm_sub ?_)
  refine bm_if_false rfl ?_
  refine wpAny_bind (wpAny_of_eq (F.bm_bind _) ?_)
  refine wpAny_bind (wpAny_of_eq (a := ()) rfl ?_)
  refine wpAny_bind (wpAny_of_eq (a := ()) rfl ?_)
  refine bm_if_false rfl ?_
  refine wpAny_bind (wpAny_specialOf hT ba_no_bytes ?_)
  refine wpAny_bind (wpAny_bind ?_)
  show wpAny _ _ (load a >>= _) _ _ _
  refine wpAny_bind (wpAny_load h ?_)
  refine wpAny_pure (wpAny_pure ?_)
  refine bm_if_false rfl ?_
  refine wpAny_bind (wpAny_specialOf hT ba_no_index ?_)
  refine bm_if_true rfl ?_
  show wpAny _ _ (Builtin.Bytes.buffer? "bytes.__new__" (.ref a) true >>= _) _ _ _
  refine wpAny_bind ?_
  unfold Builtin.Bytes.buffer?
  refine wpAny_bind (wpAny_specialOf hT ba_buffer ?_)
  refine wpAny_bind (m := Builtin.Bytes.slotIsOwn (.ref a) "__buffer__") ?_
  unfold Builtin.Bytes.slotIsOwn
  refine wpAny_bind (wpAny_specialOf hT ba_buffer ?_)
  refine bm_if_false (c := !("bytearray.__buffer__".endsWith ("." ++ "__buffer__"))) (by decide +kernel) ?_
  refine wpAny_isInstance (b := true) hT (U := "bytearray.__buffer__".dropRight ("__buffer__".length + 1)) ?_ ?_
  · have e : "bytearray.__buffer__".dropRight ("__buffer__".length + 1) = "bytearray" := by decide +kernel
    rw [e]; exact ba_sub
  refine bm_if_false rfl ?_
  refine wpAny_bind (wpAny_specialOf hT ba_buffer ?_)
  refine wpAny_bind (m := Builtin.Bytes.ownRelease (.ref a)) (ba_ownRelease h ?_)
  refine bm_if_false rfl ?_
  refine wpAny_bind (ba_payload h ?_)
  refine wpAny_pure ?_
  refine wpAny_bind (wpAny_rule ?_)
  refine wpAny_bind (wpAny_mkBytes ?_ (by rw [sizeLine_eq]; omega))
  show wpAny _ _ (if (Value.type "bytes" == Value.type "bytes") = true then _ else _) _ _ _
  refine bm_if_true (by decide) ?_
  first
    | exact wpAny_pure (hQ _ _)
    | exact wpAny_bind (wpAny_pure (wpAny_pure (hQ _ _)))
theorem bytes_ba {a : Addr} {b : Array UInt8} {Q : Value → Shared → Prop} (h : s.heap.get? a = some (baObj b)) (hz : b.size ≤ 1000)
    (hQ : ∀ t k, Q (.bytes b t) { s with toks := k }) : wpAny (model prog w) A (call (.type "bytes") [.ref a]) Q E s := by
  refine callType_codes (Q₁ := fun obj s₁ => s₁.TypeIs obj "bytes" ∧ Q obj s₁) F.bm_called (F.bm_typeCall _) F.entry_object_init
    (bytes_new_ba h hz fun t k => ⟨PySem.W.typeIs_bytes _ _ _, hQ t k⟩) fun obj s₁ h₁ => ?_
  exact ⟨h₁.1, F.args_object_init_2 obj _, object_init_meets F.bm_called.init.lookup F.bm_called.made (by decide) prog w A.in1 _ s₁ ⟨h₁.1, rfl, h₁.2⟩⟩
theorem bytes_ba_K {a : Addr} {b : Array UInt8} {Q : Value → Shared → Prop} (N : News h₀ L s.heap news) (hm : (a, baObj b) ∈ news) (hz : b.size ≤ 1000)
    (hQ : ∀ t k, Q (.bytes b t) { s with toks := k }) : wpAny (model prog w) A (call (.type "bytes") [.ref a]) Q E s := bytes_ba (N _ hm).1 hz hQ
theorem bytearray_K {n : Int} {t : Tok} {Q : Value → Shared → Prop} (F : Fr h₀ L s.heap m) (N : News h₀ L s.heap news) (h0 : 0 < n) (h1 : n ≤ 100)
    (h : ∀ l h', Fr h₀ L h' m → News h₀ L h' ((l, baObj (Array.replicate n.toNat 0)) :: news) → OwnOff news [l] → Q (.ref l) { s with heap := h' }) :
    wpS (model prog w) A (call (.type "bytearray") [.int n t]) Q Never s := by
  refine wpS_bytearray h0 h1 fun h' hk hS => h _ h' (F.keeps hk) (news_pushed F N hk hS rfl) ?_
  intro p hp b hb e
  rw [List.mem_singleton.mp hb] at e
  exact absurd (Heap.lt_size (N p hp).1) (by rw [e]; exact Nat.lt_irrefl _)
end
end Mine
end
section
open PySem PySem.W PyProof.Rows
set_option Elab.async false
set_option maxRecDepth 100000
namespace Mine
section
variable {prog : Program} {w : World} {A : Around} {E : Value → Shared → Prop} {s : Shared} {env : Env} {h₀ : Heap} {x : Str} {body : List Stmt} {Q : Flow → Shared → Prop}
/-- what stands between two turns: the ledger by a datum, the frame as it was but for the loop's own names -/
abbrev LedJ {σ : Type} (Led : σ → List (Addr × Obj)) (x : Str) (stored : List Str) (m₀ : Str → Option Value) (P : σ → Prop) : (Str → Option Value) → List (Addr × Obj) → Prop :=
  fun m nx => ∃ c : σ, nx = Led c ∧ (∀ z, z ≠ x → stored.contains z = false → m z = m₀ z) ∧ P c
theorem range_inv {σ : Type} {r : Addr} {a₀ b₀ c : Int} {t₀ u₀ v₀ : Tok} {n : Nat} {m₀ : Str → Option Value} (Led : σ → List (Addr × Obj)) (stored : List Str) (P : Nat → σ → Prop) (c₀ : σ)
    (hh : A.handled = none) (hr : IsRange s.heap r a₀ b₀ c t₀ u₀ v₀) (hsmall : Builtin.Range.small a₀ b₀ c = true) (hn : Builtin.Range.rangeSize a₀ b₀ c = (n : Int)) (F : Fr h₀ env.locals s.heap m₀) (N : News h₀ env.locals s.heap (Led c₀)) (hp : P 0 c₀)
    (turn : ∀ (i : Nat) (d : σ) t (u : Str → Option Value) h tk own, i < n → OwnOff own ((Led c₀).map (·.1)) → P i d →
      Fr h₀ env.locals h (fun y => if y = x then some (.int (a₀ + (i : Int) * c) t) else if stored.contains y = true then u y else m₀ y) → News h₀ env.locals h (Led d ++ own) →
      wpAny (model prog w) A (execs body env) (InvPostN h₀ env.locals (LedJ Led x stored m₀ (P (i + 1))) own ((Led c₀).map (·.1)) { s with heap := h, toks := tk } Q) E { s with heap := h, toks := tk })
    (done : ∀ (d : σ) (u : Str → Option Value) h tk, P n d → Fr h₀ env.locals h (fun y => if y = x then u y else if stored.contains y = true then u y else m₀ y) → News h₀ env.locals h (Led d) → Q .next { s with heap := h, toks := tk }) :
    wpAny (model prog w) A (pyIter (.ref r)) (fun it s₂ => LoopAtV prog w A h₀ env x body Q E it s₂) E s := by
  have fold : ∀ (m₁ : Str → Option Value) (v : Str → Option Value), (∀ z, z ≠ x → stored.contains z = false → m₁ z = m₀ z) →
      (fun y => if y = x then v y else if stored.contains y = true then m₁ y else m₀ y) = fun y => if y = x then v y else m₁ y := by
    intro m₁ v h
    funext y
    by_cases h1 : y = x
    · rw [if_pos h1, if_pos h1]
    · rw [if_neg h1, if_neg h1]
      cases h2 : stored.contains y with
      | true => rw [if_pos rfl]
      | false => rw [if_neg (by decide)]; exact (h y h1 h2).symm
  refine wpAny_pyIter_range hr hsmall ?_
  have W : Walks prog w A s.heap.objs.size [s.heap.objs.size] [s.heap.objs.size] n (fun i v => i < n ∧ ∃ t, v = .int (a₀ + i * c) t)
      (fun i h => IsRangeIter h s.heap.objs.size (a₀ + (i : Nat) * c) ((n : Int) - (i : Nat)) c) := (Walks.range hh _ a₀ c n).bound
  have hnI : ∀ p ∈ Led c₀, p.1 ∉ [s.heap.objs.size] := fun p hp hI => absurd (Heap.lt_size (N p hp).1) ((List.mem_singleton.mp hI) ▸ Nat.lt_irrefl _)
  refine loop_invN (fun i m nx => LedJ Led x stored m₀ (P i) m nx) W (fun hm => absurd F.ns.lt ((List.mem_singleton.mp hm) ▸ Nat.lt_irrefl _)) (fun b hb => by rw [List.mem_singleton.mp hb]; exact next_is_new F) hnI hnI
    (by show IsRangeIter _ _ _ _ _; rw [hn]; simpa using Heap.get?_push_size _ rfl) (F.push _) (fun p hp => ⟨Heap.get?_push_of_some _ (N p hp).1, (N p hp).2⟩) ⟨c₀, rfl, fun _ _ _ => rfl, hp⟩ ?_ ?_
  · rintro i v m₁ nx h tk own hi ⟨_, t, rfl⟩ _ hoff ⟨d, rfl, hm, hp'⟩ F₁ N₁
    refine turn i d t m₁ h tk own hi hoff hp' ?_ N₁
    rw [fold m₁ (fun _ => some (.int (a₀ + (i : Int) * c) t)) hm]
    exact F₁
  · rintro m₁ nx h tk ⟨d, rfl, hm, hp'⟩ F₁ N₁
    refine done d m₁ h tk hp' ?_ N₁
    rw [fold m₁ m₁ hm]
    have e : (fun y => if y = x then m₁ y else m₁ y) = m₁ := by funext y; split <;> rfl
    rw [e]; exact F₁
theorem ledJ_end {σ : Type} {Led : σ → List (Addr × Obj)} {stored : List Str} {m₀ : Str → Option Value} {P : σ → Prop} (d : σ) {L : Addr} {m' : Str → Option Value} {own news' : List (Addr × Obj)} {adr : List Addr} {s₁ : Shared} {h' : Heap} {tk : Nat}
    (F : Fr h₀ L h' m') (N : News h₀ L h' news') (hn : ∀ p ∈ Led d, p ∈ news') (ho : ∀ p ∈ own, p ∈ news') (ha : (Led d).map (·.1) = adr) (hr : ∀ z, z ≠ x → stored.contains z = false → m' z = m₀ z) (hp : P d) :
    InvEndN h₀ L (LedJ Led x stored m₀ P) own adr s₁ { s₁ with heap := h', toks := tk } := InvEndN.intro F N ⟨d, rfl, hr, hp⟩ ha hn ho
end
end Mine
end
section
open PySem PySem.W PyProof.Rows
namespace Mine
/-- the place in the unturned row -/
def turnAt (w p : Nat) : Nat := p / w * w + (w - 1 - p % w)
def OutP (data : List UInt8) (w i : Nat) (b : Array UInt8) : Prop := b.size = data.length ∧ ∀ p, p < i * w → b[p]? = data[turnAt w p]?
def InP (data : List UInt8) (w i j : Nat) (b : Array UInt8) : Prop := b.size = data.length ∧ (∀ p, p < i * w → b[p]? = data[turnAt w p]?) ∧ ∀ p, i * w + w ≤ p + j → p < i * w + w → b[p]? = data[turnAt w p]?
theorem outP_start {data : List UInt8} {w n : Nat} (hn : data.length = n) : OutP data w 0 (Array.replicate n 0) := ⟨by simp [hn], fun p h => by omega⟩
theorem inP_start {data : List UInt8} {w i : Nat} {b : Array UInt8} (h : OutP data w i b) : InP data w i 0 b := ⟨h.1, h.2, fun p h1 h2 => by omega⟩
theorem inP_end {data : List UInt8} {w i : Nat} {b : Array UInt8} (h : InP data w i w b) : OutP data w (i + 1) b := ⟨h.1, fun p hp => by
  rw [Nat.add_mul, Nat.one_mul] at hp
  by_cases h1 : p < i * w
  · exact h.2.1 p h1
  · exact h.2.2 p (by omega) hp⟩
theorem turnAt_q {w i j : Nat} (hj : j < w) : turnAt w (i * w + (w - 1 - j)) = i * w + j := by
  have hw : 0 < w := by omega
  have e1 : (i * w + (w - 1 - j)) / w = i := by
    rw [Nat.add_comm, Nat.add_mul_div_right _ _ hw, Nat.div_eq_of_lt (by omega)]; omega
  have e2 : (i * w + (w - 1 - j)) % w = w - 1 - j := by
    rw [Nat.add_comm, Nat.add_mul_mod_self_right, Nat.mod_eq_of_lt (by omega)]
  unfold turnAt
  rw [e1, e2]; omega
theorem inP_step {data : List UInt8} {w i j : Nat} {b : Array UInt8} (hj : j < w) (hi : i * w + w ≤ data.length) (h : InP data w i j b) {k : Int} {x : UInt8} (hk : k.toNat = i * w + (w - 1 - j)) (hx : x = data.getD (i * w + j) 0) :
    InP data w i (j + 1) (b.setIfInBounds k.toNat x) := by
  refine ⟨by rw [Array.size_setIfInBounds]; exact h.1, fun p hp => ?_, fun p h1 h2 => ?_⟩
  · rw [Array.getElem?_setIfInBounds_ne (by omega)]; exact h.2.1 p hp
  · by_cases e : k.toNat = p
    · subst e
      rw [Array.getElem?_setIfInBounds_self_of_lt (by rw [h.1]; omega), hk, turnAt_q hj, hx, List.getD_eq_getElem?_getD, List.getElem?_eq_getElem (by omega)]
      rfl
    · rw [Array.getElem?_setIfInBounds_ne e]; exact h.2.2 p (by omega) h2
/-- the turned row -/
def turned (data : List UInt8) (w : Nat) : List UInt8 := (List.range data.length).map fun p => data.getD (turnAt w p) 0
theorem turnAt_lt {w q p : Nat} (hw : 0 < w) (h : p < q * w) : turnAt w p < q * w := by
  unfold turnAt
  have h1 : p / w < q := (Nat.div_lt_iff_lt_mul hw).mpr h
  have h2 := Nat.mod_lt p hw
  have h3 : p / w * w + w ≤ q * w := by
    have := Nat.mul_le_mul_right w h1
    rw [Nat.succ_mul] at this; exact this
  omega
theorem outP_end {data : List UInt8} {w q : Nat} {b : Array UInt8} (hw : 0 < w) (hq : data.length = q * w) (h : OutP data w q b) : b = (turned data w).toArray := by
  apply Array.ext_getElem?
  intro p
  by_cases hp : p < q * w
  · rw [h.2 p hp]
    have := turnAt_lt hw hp
    rw [List.getElem?_eq_getElem (by omega)]
    simp [turned, hq, hp, List.getD_eq_getElem?_getD, List.getElem?_eq_getElem (show turnAt w p < data.length by omega)]
  · rw [Array.getElem?_eq_none (by rw [h.1]; omega)]
    rw [List.getElem?_toArray, List.getElem?_eq_none (by simp [turned, hq]; omega)]
theorem sw_small {data : List UInt8} {w n : Nat} (hd : data.length = n) (hn : n ≤ 12) (hw : w ≤ n) : Builtin.Range.small 0 ((data.toArray.size : Nat) : Int) (w : Int) = true := by
  rw [List.size_toArray, hd]
  have : ∀ n < 13, ∀ w < 13, Builtin.Range.small 0 ((n : Nat) : Int) ((w : Nat) : Int) = true := by decide +kernel
  exact this n (by omega) w (by omega)
theorem sw_size {data : List UInt8} {w n q : Nat} (hd : data.length = n) (hn : n ≤ 12) (hw0 : 1 ≤ w) (hw : w ≤ n) (hq : n = q * w) : Builtin.Range.rangeSize 0 ((data.toArray.size : Nat) : Int) (w : Int) = (q : Int) := by
  rw [List.size_toArray, hd, hq]
  have hq' : q ≤ 12 := by
    have := Nat.mul_le_mul_left q hw0
    omega
  have : ∀ q < 13, ∀ w < 13, 1 ≤ w → Builtin.Range.rangeSize 0 ((q * w : Nat) : Int) ((w : Nat) : Int) = (q : Int) := by decide +kernel
  exact this q (by omega) w (by omega) hw0
theorem in_small {w : Nat} (hw : w ≤ 12) : Builtin.Range.small 0 (w : Int) 1 = true := by
  have : ∀ w < 13, Builtin.Range.small 0 ((w : Nat) : Int) 1 = true := by decide +kernel
  exact this w (by omega)
theorem in_size {w : Nat} (hw : w ≤ 12) : Builtin.Range.rangeSize 0 (w : Int) 1 = (w : Int) := by
  have : ∀ w < 13, Builtin.Range.rangeSize 0 ((w : Nat) : Int) 1 = ((w : Nat) : Int) := by decide +kernel
  exact this w (by omega)
theorem iw_le {i q w n : Nat} (h : i < q) (hn : n = q * w) : i * w + w ≤ n := by
  have := Nat.mul_le_mul_right w h
  rw [Nat.succ_mul] at this; omega
theorem turn_idx {k : Int} {w q n : Nat} (hw : 1 ≤ w) (hq : n = q * w) (h0 : 0 ≤ k) (h1 : k < (n : Int)) :
    0 ≤ k.fdiv (w : Int) * (w : Int) + (w : Int) - 1 - k.fmod (w : Int) ∧ k.fdiv (w : Int) * (w : Int) + (w : Int) - 1 - k.fmod (w : Int) < (n : Int) ∧ (k.fdiv (w : Int) * (w : Int) + (w : Int) - 1 - k.fmod (w : Int)).toNat = turnAt w k.toNat := by
  obtain ⟨j, rfl⟩ := Int.eq_ofNat_of_zero_le h0
  have e1 : (j : Int).fdiv (w : Int) = ((j / w : Nat) : Int) := by rw [Int.fdiv_eq_ediv_of_nonneg _ (by omega)]; rfl
  have e2 : (j : Int).fmod (w : Int) = ((j % w : Nat) : Int) := by rw [Int.fmod_eq_emod_of_nonneg _ (by omega)]; rfl
  rw [e1, e2]
  have h2 := Nat.mod_lt j hw
  have h3 := turnAt_lt (q := q) hw (show j < q * w by omega)
  unfold turnAt at h3 ⊢
  have e3 : ((j / w : Nat) : Int) * (w : Int) = ((j / w * w : Nat) : Int) := by exact_mod_cast rfl
  rw [e3]
  have e4 : (j : Int).toNat = j := rfl
  rw [e4]
  omega
theorem outP_start' {data : List UInt8} {w : Nat} : OutP data w 0 (Array.replicate ((data.toArray.size : Nat) : Int).toNat 0) := ⟨by simp, fun p h => by omega⟩
end Mine
end
section
open PySem PySem.W PyProof.Rows
set_option Elab.async false
set_option maxRecDepth 100000
set_option maxHeartbeats 8000000
namespace Mine
theorem swap_rule {w : World} {mean : ExcName → Option Value} {mg mb : Str → Option Value} {news : List (Addr × Obj)} {data : List UInt8} {td tw : Tok} {wN n : Nat}
    {dp un : Nat} {gd : Option (List Code)} {cn : Str} {cs : Scope} {a : Addr} {ccd : Value} {cl : List (Str × Addr)} {outer : List Env} {A₀ : Around} {base h₀ : Heap} {L : Addr} {m : Str → Option Value} {s : Shared} {Q : Value → Shared → Prop}
    (B : Below A₀ base outer h₀) (F : Fr h₀ L s.heap m) (X : Frag.In (Mine.hd.heap_39 w.params) h₀) (N : News h₀ L s.heap news) (T : Top Mine.hd.view_39 (looseW Mine.hd.view_39 []) mean mg mb h₀) (hk : cs.kind = .function)
    (h1 : 1 ≤ n) (hn : n ≤ 12) (hx : data.length = n) (hw : 1 ≤ wN) {q : Nat} (hq : n = q * wN) (hwn : wN ≤ n)
    (hd : dp + 3 < recursionLimit) (hu : un + 20 < cLine)
    (hret : ∀ (t : Tok) (h' : Heap) (tk' : Nat), Fr h₀ L h' m → News h₀ L h' news → Q (.bytes (turned data wN).toArray t) { s with heap := h', toks := tk' }) :
    wpS (model Challenge.rw_pg0078_01.row.prog w) (ktrTop dp un gd cn cs L a ccd cl outer) (call (.ref 35) [.bytes data.toArray td, (.int (wN : Int) tw)]) Q Never s := by
  w_on
  revert X; k_fill; intro X
  k_with_none
  refine wpS_call ?_
  k_dflt (refine' codeS_def ?k1 ?k2 ?k3 ?k4 ?k5 ?kA ?kF ?kK ?k6 ?k7 ?k8 ?k9 ?kB ?_ ?c2 ?c3 ?c4 ?c5; (case kA => exact rfl); (case kF => exact rfl); (case kK => assumption); (case k1 => k_asm); (case k2 => k_asm); (case k3 => k_asm); (case k4 => k_asm); (case k5 => k_asm); (case k6 => k_is); (case k7 => k_is); (case k8 => ktr_room); (case k9 => exact BindsTo.of_eq rfl); (case c5 => decide); (case kB => exact locs rfl); (case c2 => exact rfl); (case c3 => exact rfl); (case c4 => exact rfl); k_whole; intro g' L' h' FG' F' N' B' X' T' lt'; (try dsimp only); (try k_lift B'))
  refine wpS_execs_cons ?_
  refine wpS_Assign_Name ?_
  refine wpS_Call ?_
  iterate 1 (focus (first | (k_unfold; (try dsimp only)) | (k_end; wrow_close) | walk1 | (dsimp only; walk1) | (leave1; walk_say "STEP leave1"; try dsimp only)))
  refine wpS_callWith (P := fun _ => True) (fun h _ => ⟨_, .inr rfl, Looks.of_pure rfl⟩) ?_
  iterate 8 (focus (first | (k_unfold; (try dsimp only)) | (k_end; wrow_close) | walk1 | (dsimp only; walk1) | (leave1; walk_say "STEP leave1"; try dsimp only)))
  iterate 1 (focus (first | (k_unfold; (try dsimp only)) | (k_end; wrow_close) | walk1 | (dsimp only; walk1) | (leave1; walk_say "STEP leave1"; try dsimp only)))
  refine ⟨trivial, ?_⟩
  (rename Fr _ _ _ _ => F8); (rename News _ _ _ _ => N8)
  refine bytearray_K F8 N8 (by simp; omega) (by simp; omega) ?_
  clear F8 N8
  intro l' h8 F8 N8 O8
  dsimp only
  iterate 1 (focus (first | (k_unfold; (try dsimp only)) | (k_end; wrow_close) | walk1 | (dsimp only; walk1) | (leave1; walk_say "STEP leave1"; try dsimp only)))
  dsimp only
  refine wpS_of ?_
  iterate 3 (focus (first | (k_unfold; (try dsimp only)) | (k_end; wrow_close) | walk1 | (dsimp only; walk1) | (leave1; walk_say "STEP leave1"; try dsimp only)))
  iterate 13 (focus (first | (k_unfold; (try dsimp only)) | (k_end; wrow_close) | walk1 | (dsimp only; walk1) | (leave1; walk_say "STEP leave1"; try dsimp only)))
  iterate 3 (focus (first | (k_unfold; (try dsimp only)) | (k_end; wrow_close) | walk1 | (dsimp only; walk1) | (leave1; walk_say "STEP leave1"; try dsimp only)))
  dsimp only
  (rename Fr _ _ _ _ => F8); (rename News _ _ _ _ => N8)
  refine range3_rows F8 N8 (by omega) ?_ (Or.inl (PyProof.noPylong_small (by omega)))
  clear F8 N8
  intro h8 tk8 t8 u8 v8 R8 F8 N8 _
  dsimp only
  k_dflt (refine range_inv (σ := Array UInt8) (fun b => (l', baObj b) :: news) [Str.ofString "j"] (fun i b => OutP data wN i b) _ rfl R8 (sw_small hx hn hwn) (sw_size hx hn hw hwn hq) F8 N8 outP_start' ?_ ?_)
  · clear F8 N8 R8
    intro i b ti u h9 tk9 own hi hoff hP F9 N9
    dsimp only at hoff N9 ⊢
    simp only [List.map_cons, List.cons_append] at hoff N9
    (try k_fold)
    iterate 2 (focus (first | (k_unfold; (try dsimp only)) | (k_end; wrow_close) | walk1 | (dsimp only; walk1) | (leave1; walk_say "STEP leave1"; try dsimp only)))
    iterate 7 (focus (first | (k_unfold; (try dsimp only)) | (k_end; wrow_close) | walk1 | (dsimp only; walk1) | (leave1; walk_say "STEP leave1"; try dsimp only)))
    dsimp only
    (rename IsRange _ _ _ _ _ _ _ _ => R7); (rename Fr _ _ _ _ => F7); (rename News _ _ _ _ => N7)
    have hb := iw_le hi hq
    have hb' : (i : Int) * (wN : Int) + (wN : Int) ≤ (n : Int) := by exact_mod_cast hb
    have hb0 : 0 ≤ (i : Int) * (wN : Int) := by exact_mod_cast Nat.zero_le (i * wN)
    k_dflt (refine range_inv (σ := Array UInt8) (fun b => (l', baObj b) :: (news ++ own)) [] (fun j b => InP data wN i j b) _ rfl R7 (in_small (by omega)) (in_size (by omega)) F7 N7 (inP_start hP) ?_ ?_)
    · clear F7 N7 R7
      intro j b2 tj u2 h7 tk7 own2 hj hoff2 hP2 F7 N7
      dsimp only at hoff2 N7 ⊢
      simp only [List.map_cons, List.cons_append] at hoff2 N7
      (try k_fold)
      iterate 9 (focus (first | (k_unfold; (try dsimp only)) | (k_end; wrow_close) | walk1 | (dsimp only; walk1) | (leave1; walk_say "STEP leave1"; try dsimp only)))
      iterate 11 (focus (first | (k_unfold; (try dsimp only)) | (k_end; wrow_close) | walk1 | (dsimp only; walk1) | (leave1; walk_say "STEP leave1"; try dsimp only)))
      dsimp only
      (rename Fr _ _ _ _ => F6); (rename News _ _ _ _ => N6)
      have hz2 : b2.size = n := hP2.1.trans hx
      have e1 : (0 + (i : Int) * (wN : Int) + (wN : Int) - 1 - (0 + (j : Int) * 1)).toNat = i * wN + (wN - 1 - j) := by
        have : ((i * wN : Nat) : Int) = (i : Int) * (wN : Int) := by exact_mod_cast rfl
        omega
      have e2 : (0 + (i : Int) * (wN : Int) + (0 + (j : Int) * 1)).toNat = i * wN + j := by
        have : ((i * wN : Nat) : Int) = (i : Int) * (wN : Int) := by exact_mod_cast rfl
        omega
      k_dflt (refine ba_set_K F6 N6 (Upd.head ?_) ?_ ?_ ?_ ?_ ?_ ?_)
      · intro p hp
        rcases List.mem_append.mp hp with hp | hp
        · rcases List.mem_append.mp hp with hp | hp
          · exact O8 p hp _ (List.mem_singleton.mpr rfl)
          · exact hoff p hp _ (List.mem_cons_self ..)
        · exact hoff2 p hp _ (List.mem_cons_self ..)
      · omega
      · omega
      · omega
      · omega
      · have := (data.getD (0 + (i : Int) * (wN : Int) + (0 + (j : Int) * 1)).toNat 0).toNat_lt
        omega
      clear F6 N6
      intro h6 F6 N6
      dsimp only
      iterate 4 (focus (first | (k_unfold; (try dsimp only)) | (k_end; wrow_close) | walk1 | (dsimp only; walk1) | (leave1; walk_say "STEP leave1"; try dsimp only)))
      k_dflt (refine ledJ_end (b2.setIfInBounds (0 + (i : Int) * (wN : Int) + (wN : Int) - 1 - (0 + (j : Int) * 1)).toNat ((((data.getD (0 + (i : Int) * (wN : Int) + (0 + (j : Int) * 1)).toNat 0).toNat : Nat) : Int).toNat.toUInt8)) F6 N6 ?_ ?_ rfl ?_ ?_)
      · intro p hp
        simp only [List.mem_cons, List.mem_append] at hp ⊢
        rcases hp with h | h | h <;> simp [h]
      · intro p hp
        simp only [List.mem_cons, List.mem_append]
        simp [hp]
      · intro z h1 h2
        dsimp only
        rw [if_neg h1, if_neg (by simp)]
      · refine inP_step hj (by omega) hP2 e1 ?_
        rw [e2]
        simp
    · clear F7 N7 R7
      intro b2 u2 h7 tk7 hP2 F7 N7
      dsimp only at N7 ⊢
      iterate 3 (focus (first | (k_unfold; (try dsimp only)) | (k_end; wrow_close) | walk1 | (dsimp only; walk1) | (leave1; walk_say "STEP leave1"; try dsimp only)))
      k_dflt (refine ledJ_end b2 F7 N7 ?_ ?_ rfl ?_ (inP_end hP2))
      · intro p hp
        simp only [List.mem_cons, List.mem_append] at hp ⊢
        rcases hp with h | h <;> simp [h]
      · intro p hp
        simp only [List.mem_cons, List.mem_append]
        simp [hp]
      · intro z h1 h2
        have h3 : z ≠ Str.ofString "j" := by
          intro e; rw [e] at h2; revert h2; decide +kernel
        dsimp only
        rw [if_neg h3, if_neg (by simp), if_neg h1, if_neg (by rw [h2]; decide)]
  · clear F8 N8 R8
    intro b u h9 tk9 hP F9 N9
    dsimp only at N9 ⊢
    iterate 5 (focus (first | (k_unfold; (try dsimp only)) | (k_end; wrow_close) | walk1 | (dsimp only; walk1) | (leave1; walk_say "STEP leave1"; try dsimp only)))
    iterate 3 (focus (first | (k_unfold; (try dsimp only)) | (k_end; wrow_close) | walk1 | (dsimp only; walk1) | (leave1; walk_say "STEP leave1"; try dsimp only)))
    dsimp only
    refine bytes_ba_K N9 (List.mem_cons_self ..) (by have := hP.1; omega) ?_
    intro t5 k5
    dsimp only
    have eb := outP_end (by omega) (hx.trans hq) hP
    subst eb
    iterate 1 (focus (first | (k_unfold; (try dsimp only)) | (k_end; wrow_close) | walk1 | (dsimp only; walk1) | (leave1; walk_say "STEP leave1"; try dsimp only)))
    exact hret _ _ _ (by k_asm) (cb_drop (by assumption) fun p hp => List.mem_cons_of_mem _ hp)
end Mine
end
section
open PySem PySem.W PyProof.Rows
open Sem (wp)
set_option Elab.async false
set_option maxRecDepth 100000
namespace Mine
section
variable {prog : Program} {w : World} {A A₀ : Around} {E : Value → Shared → Prop} {s : Shared} {K : Frag} {L : Addr} {h₀ base : Heap} {m mg mb : Str → Option Value} {news : List (Addr × Obj)} {p : Program} {loose : List Str} {mean : ExcName → Option Value} {R : Result → Shared → Prop}
theorem codeS_defC {env : Env} {outer : List Env} {name qual : Str} {params : Arguments} {body : List Stmt} {scope : Scope} {dV kV doc pm cdv ct oc : Value} {an od : Option Addr} {osl : Array (Option Value)} {f : Addr} {args : Args} {binds : List (Str × Value)}
    (B : Below A₀ base outer h₀) (F : Fr h₀ L s.heap m) (X₀ : K.In h₀) (N : News h₀ L s.heap news) (T : Top p loose mean mg mb h₀) (hA : A.frames = some (env :: outer)) (hf : env.frame = some L) (hke : env.scope.kind = .function)
    (ho : K.lookup f = some ⟨oc, od, .func (fnOf name qual params body scope dV kV doc pm an cdv ct), osl⟩) (hcd : codeIn K cdv qual = true) (hroom : A.depth < recursionLimit)
    (hbind : BindsTo s (fnOf name qual params body scope dV kV doc pm an cdv ct) args binds) (hkind : (binds.all fun y => scope.names.lookup y.1 == some .local || scope.names.lookup y.1 == some .cell) = true)
    (hnd : ((cellsFrom 0 scope.names []).map (·.1)).Nodup)
    (h : ∀ g L' h₁ tk cells, Fr h₀ L g m → Fr g L' h₁ (bindL (envOfC qual scope L' f cdv).kindOf binds fun _ => none) → News g L' h₁ (cells ++ news) →
      CellsAre (bindC (envOfC qual scope L' f cdv).kindOf binds fun _ => none) (cellsFrom (L' + 1) scope.names []) cells → Below A base (env :: outer) g → K.In g → Top p loose mean mg mb g → (∀ p ∈ news, p.1 < L') →
      wpS (model prog w) (A.deeper (envOfC qual scope L' f cdv)) (execs body (envOfC qual scope L' f cdv))
        (fun fl s' => LeaveK h₀ L m g R (match fl with | .ret v => v | _ => .none) s') Never { s with heap := h₁, toks := tk })
    (hco : scope.isCoroutine = false) (hgen : scope.isGenerator = false) (hk : scope.kind = .function) : codeS (model prog w) A (.call (.ref f) args) R s := by
  obtain ⟨FG, BG, st, lv⟩ := groundX (R := R) B F N hA hf hke
  have hXs := X₀.keeps F.keep
  have hcr := codeRec_of hXs hcd
  have hos := hXs _ _ ho
  have hlim := T.nolimit.keeps F.keep
  refine codeS_of_tree rfl ?_
  show wpS _ A.in1 (callAny (.ref f) args) _ _ s
  simp only [callAny]
  refine wpS_then (wpAny_load hos ?_)
  obtain ⟨c, occ, vs, tq, hc, hoc, hdc, hq⟩ := hcr
  simp only [callFunction, hco, hgen]
  subst hc
  refine wpS_then (m := field (.ref c) 1) (wpAny_field hoc hdc hq (wpS_then (wpAny_pure ?_)))
  refine wpS_then (hbind _ _ _ _ ?_)
  refine wpS_then (wpAny_newFunctionEnv_cells hk (kindsX hkind _) fun env' he s' x => ?_)
  subst he
  refine wpS_then (wpAny_enterFrame (hlim.keeps x.toInCall.keep) hroom (wpS_pure ⟨rfl, codeS_func ?_⟩))
  obtain ⟨h₁, tk, rfl, _⟩ := x.done
  have hk₁ := x.toInCall.keep
  obtain ⟨cells, NC, Y⟩ := Cl.news (h₀ := s.heap) (Nat.le_refl _) fun n c hm => ⟨x.cell n c (lookup_of_mem_nodup (cellsFrom_names scope.names 0 (s.heap.objs.size + 1) [] [] rfl ▸ hnd) hm), x.above n c hm⟩
  refine wpS_mono (h _ s.heap.objs.size h₁ tk cells FG ⟨x.toInCall.ns, fun b o e => hk₁ b o (of_hideAll _ e), Nat.le_of_eq (hideAll_size _ _)⟩ (fun q hq' => ?_) Y BG (X₀.keeps st) (T.keeps st) (fun q hq' => Heap.lt_size (N q hq').1)) (fun fl s' hl => lv _ _ hl) fun _ _ y => y
  rcases List.mem_append.mp hq' with hp | hp
  · refine ⟨(NC q hp).1, (NC q hp).2.1, ?_⟩
    cases e : (hideAll s.heap (news.map (·.1))).get? q.1 with
    | none => rfl
    | some o => have := of_hideAll _ e; rw [(NC q hp).2.2] at this; cases this
  · exact ⟨hk₁ _ _ (N q hp).1, Nat.ne_of_lt (Heap.lt_size (N q hp).1), hideAll_none _ (List.mem_map_of_mem hp)⟩
theorem wpS_Assign_Swapped {M : Model} {env : Env} {elts k tpos value pos} {names : List Str} {Q : Flow → Shared → Prop}
    (h : wpS M A (eval value env) (fun v s₁ => wpAny M A (unpackItems v names.length none) (fun items s₂ => wpAny M A (assignInOrder (names.reverse.map fun n => bindName env n) items.reverse) (fun _ => Q .next) E s₂) E s₁) E s)
    (hs : swapsWithSole [.Tuple elts k tpos] value pos.line env = pure false := by rfl)
    (hw : swappedStores [.Tuple elts k tpos] value env = pure (some names) := by rfl) : wpS M A (exec (.Assign [.Tuple elts k tpos] value pos) env) Q E s := by
  rw [exec_Assign]
  refine wpS_then (wpAny_standAt ?_)
  rw [hs]
  refine wpS_then (wpAny_pure ?_)
  rw [if_neg (by decide)]
  refine wpS_bind (wpS_mono h (fun v s₁ h₁ => wpS_of ?_) fun _ _ x => x)
  rw [hw]
  refine wpAny_bind (wpAny_pure ?_)
  show wpAny M A (do rule "assign.swapped-stores"; let items ← unpackItems v names.length none; assignInOrder (names.reverse.map fun n => bindName env n) items.reverse; pure .next) Q E s₁
  exact wpAny_bind (wpAny_rule (wpAny_bind (wpAny_mono h₁ (fun items s₂ h₂ => wpAny_bind (wpAny_mono h₂ (fun _ _ x => wpAny_pure x) fun _ _ x => x)) fun _ _ x => x)))
end
end Mine
end
section
open PySem PySem.W PyProof.Rows
set_option Elab.async false
namespace Mine
section
variable {prog : Program} {w : World} {A : Around} {E : Value → Shared → Prop} {s : Shared} {h₀ : Heap} {L : Addr} {m : Str → Option Value} {news : List (Addr × Obj)}
theorem bytesOf_K {l : Addr} {vs : List Value} {ns : List Int} {bs : List UInt8} {Q : Value → Shared → Prop} (F : Fr h₀ L s.heap m) (N : News h₀ L s.heap news) (hl : s.heap.IsList l vs.toArray) (hi : IntsAre vs ns) (e : ns = bs.map fun u => ((u.toNat : Nat) : Int)) (hz : bs.length ≤ 1000) (hh : A.handled = none)
    (h : ∀ h' t k, Fr h₀ L h' m → News h₀ L h' news → Q (.bytes bs.toArray t) { s with heap := h', toks := k }) : wpAny (model prog w) A (call (.type "bytes") [.ref l]) Q E s := by
  refine bytes_K F N hl hi ?_ (by rw [hi.length, e, List.length_map, sizeLine_eq]; omega) hh fun h' t k F' N' _ => ?_
  · intro n hn
    rw [e] at hn
    obtain ⟨u, _, rfl⟩ := List.mem_map.mp hn
    have := u.toNat_lt
    omega
  · have e2 : (ns.map fun n => n.toNat.toUInt8) = bs := by
      rw [e, List.map_map]
      conv => rhs; rw [← List.map_id bs]
      refine List.map_congr_left fun u _ => ?_
      simp
    rw [e2]
    exact h h' t k F' N'
end
theorem due_eq {data : List UInt8} {w q n : Nat} (hx : data.length = n) (hw : 1 ≤ w) (hq : n = q * w) :
    List.map (fun k : Int => (((data.getD (k.fdiv (w : Int) * (w : Int) + (w : Int) - 1 - k.fmod (w : Int)).toNat 0).toNat : Nat) : Int)) (rangeKs 0 (((data.toArray.size : Nat) : Int) - 0).toNat) = (turned data w).map fun u => ((u.toNat : Nat) : Int) := by
  have e : (((data.toArray.size : Nat) : Int) - 0).toNat = n := by rw [List.size_toArray]; omega
  rw [e]
  unfold rangeKs turned
  rw [hx, List.map_map, List.map_map]
  refine List.map_congr_left fun i hi => ?_
  have hi' := List.mem_range.mp hi
  have := (turn_idx (k := 0 + (i : Int)) hw hq (by omega) (by omega)).2.2
  simp only [Function.comp]
  rw [this]
  have e3 : (0 + (i : Int)).toNat = i := by omega
  rw [e3]
theorem turned_length (data : List UInt8) (w : Nat) : (turned data w).length = data.length := by simp [turned]
end Mine
end
section
open PySem PySem.W PyProof.Rows PyProof.Rows.LCg PySem.Calls
set_option Elab.async false
set_option maxRecDepth 100000
namespace Mine
section
variable {prog : Program} {w : World} {A : Around} {E : Value → Shared → Prop} {s : Shared} {h₀ : Heap} {L : Addr} {m : Str → Option Value} {env : Env}
theorem comp_each {elt : Expr} {x : Str} {scope : Scope} {cl : List (Str × Addr)} {S : List (Addr × Obj) → Prop} {P : Nat → Value → Prop} {Fin : List Value → List (Addr × Obj) → Prop} {n : Nat} {news : List (Addr × Obj)} (Y : Nat → Value → Prop)
    (el : ∀ i v I oI C oC D m₂ ys h tk (E' : Value → Shared → Prop), i < n → P i v → NsObj oC m₂ → m₂ x = some v → Fr h₀ L h m → News h₀ L h ((I, oI) :: (C, oC) :: (D, lst ys) :: news) → Off3 I C D news → ((@Ne Nat I C) ∧ (@Ne Nat I D) ∧ (@Ne Nat C D)) →
      wpAny (model prog w) A (eval elt (compEnvC scope cl C env)) (CompEnd h₀ L m { s with heap := h, toks := tk } I oI C oC D (lst ys) S (fun y news' => news' = news ∧ Y i y)) E' { s with heap := h, toks := tk })
    (fin : ∀ ys, ys.length = n → (∀ (i : Nat) y, ys[i]? = some y → Y i y) → Fin ys news) : CompRest prog w A h₀ L m env elt x scope cl s S P Fin n 0 [] news := by
  have gen : ∀ k i ys, i + k = n → ys.length = i → (∀ (j : Nat) y, ys[j]? = some y → Y j y) → CompRest prog w A h₀ L m env elt x scope cl s S P Fin k i ys news := by
    intro k
    induction k with
    | zero =>
      intro i ys hi hl hy
      exact CompRest.zero (fin ys (by omega) hy)
    | succ k ih =>
      intro i ys hi hl hy
      refine CompRest.succ fun v I oI C oC D m₂ h tk E' hP ho hm F N O ne => ?_
      refine wpAny_mono (el i v I oI C oC D m₂ ys h tk E' (by omega) hP ho hm F N O ne) (fun y s₂ hc => ?_) fun _ _ e => e
      obtain ⟨h', tk', news', e, F', N', off', hS, rfl, hY⟩ := hc
      refine ⟨h', tk', news', e, F', N', off', hS, ih (i + 1) (ys ++ [y]) (by omega) (by rw [List.length_append, List.length_singleton, hl]) fun j z hz => ?_⟩
      by_cases hj : j < ys.length
      · rw [List.getElem?_append_left hj] at hz; exact hy j z hz
      · rw [List.getElem?_append_right (Nat.not_lt.mp hj)] at hz
        have : j - ys.length = 0 := by
          have := (List.getElem?_eq_some_iff.mp hz).1
          rw [List.length_singleton] at this; omega
        rw [this] at hz
        have ej : j = i := by omega
        cases hz
        rw [ej]; exact hY
  exact gen n 0 [] (by omega) rfl fun j y hy => by cases hy

theorem ListComp_bytes {elt iter : Expr} {x : Str} {px : Pos} {scope : Scope} {cl : List (Str × Addr)} {pos : Pos} {Q : Value → Shared → Prop}
    (hclos : closureFor scope env = pure cl) (hcell : ∀ y ∈ scope.names, y.2 ≠ .cell) (hkind : scope.kind = .function)
    (hnames : ∀ y ∈ scope.names, y.2 = .local → scope.names.lookup y.1 = some .local) (hx : scope.names.lookup x = some .local)
    (h : wpAny (model prog w) A (eval iter env) (fun xv s₁ => ∃ (b : Array UInt8) (t : Tok) (news : List (Addr × Obj)), xv = .bytes b t ∧ A.handled = none ∧ Fr h₀ L s₁.heap m ∧ News h₀ L s₁.heap news ∧ b.size ≤ sizeLine ∧
      ∀ s₂ : Shared, (∃ h, s₂ = { s₁ with heap := h }) → CompRest prog w A h₀ L m env elt x scope cl s₂ (fun _ => True) (fun i v => ∃ c u, b[i]? = some c ∧ v = .int (c.toNat : Int) u) (FinE h₀ L m s₂ Q) b.size 0 [] news) E s)
    (hs : ∀ x, foldedSetIterable iter env x = pure x := by intro _; rfl) :
    wpAny (model prog w) A (eval (.ListComp elt [⟨.Name x px, iter, [], 0⟩] scope pos) env) Q E s := by
  rw [eval_ListComp]
  refine wpAny_comprehension_free (use := none) rfl hs hclos hkind hnames (wpAny_mono h (fun xv s₁ h₁ => ?_) fun _ _ e => e)
  obtain ⟨b, t, news, rfl, hh, F, N, hsz, R⟩ := h₁
  refine KBw.pyIter_bytes ?_
  have up : ∀ c o, s₁.heap.get? c = some o → (s₁.heap.push { cls := .type "bytes_iterator", data := .fields #[.bytes b t, .int 0 0] }).get? c = some o := fun c o e => Heap.get?_push_of_some _ e
  refine block_U (KBw.walks hh s₁.heap.objs.size b t) hsz (fun i h st => by obtain ⟨o, e, _⟩ := st; exact ⟨o, e⟩) (S := fun _ => True) (fun i h h' o nw st e e' _ _ _ => by obtain ⟨o', q, r⟩ := st; rw [e] at q; cases q; exact ⟨o, e', r⟩)
    hcell hkind hx ⟨_, Heap.get?_push_size _ rfl, rfl, rfl⟩ (fun c hc => ?_) (F.keeps up) (N.grown up) (Nat.ne_of_lt F.ns.lt) (next_is_new F) (fun p hp => Nat.ne_of_lt (Heap.lt_size (N p hp).1)) trivial (R _ ⟨_, rfl⟩) ?_
  · rw [List.mem_singleton.mp hc]
    show s₁.heap.objs.size < (s₁.heap.push _).objs.size
    rw [Heap.size_push]; exact Nat.lt_succ_self _
  · intro D C h tk m' ys news' F' N' o1 hn hC₀ hD₀ hCL hDL hCD offC fin
    refine ⟨m', hn, fun h'' hs'' => fin D h'' tk (F'.change hs'' hCL hC₀) (fun p hp => ?_) o1⟩
    refine ⟨hs''.extBut _ _ ?_ (N' p hp).1, (N' p hp).2⟩
    rcases List.mem_cons.mp hp with rfl | hp
    · exact Ne.symm hCD
    · exact offC p hp
theorem ListComp_bytesF {elt iter : Expr} {x : Str} {px : Pos} {scope : Scope} {cl : List (Str × Addr)} {pos : Pos} {Q : Value → Shared → Prop}
    {hx₀ : Heap} (_F : Fr h₀ L hx₀ m) (hclos : closureFor scope env = pure cl) (hcell : ∀ y ∈ scope.names, y.2 ≠ .cell) (hkind : scope.kind = .function)
    (hnames : ∀ y ∈ scope.names, y.2 = .local → scope.names.lookup y.1 = some .local) (hx : scope.names.lookup x = some .local)
    (h : wpAny (model prog w) A (eval iter env) (fun xv s₁ => ∃ (b : Array UInt8) (t : Tok) (news : List (Addr × Obj)), xv = .bytes b t ∧ A.handled = none ∧ Fr h₀ L s₁.heap m ∧ News h₀ L s₁.heap news ∧ b.size ≤ sizeLine ∧
      ∀ s₂ : Shared, (∃ h, s₂ = { s₁ with heap := h }) → CompRest prog w A h₀ L m env elt x scope cl s₂ (fun _ => True) (fun i v => ∃ c u, b[i]? = some c ∧ v = .int (c.toNat : Int) u) (FinE h₀ L m s₂ Q) b.size 0 [] news) E s)
    (hs : ∀ x, foldedSetIterable iter env x = pure x := by intro _; rfl) :
    wpAny (model prog w) A (eval (.ListComp elt [⟨.Name x px, iter, [], 0⟩] scope pos) env) Q E s :=
  ListComp_bytes hclos hcell hkind hnames hx h hs
end
theorem strsAre_of_get : ∀ (vs : List Value) (ns : List Str), vs.length = ns.length → (∀ (j : Nat) v, vs[j]? = some v → ∃ t n, ns[j]? = some n ∧ v = .str n t) → StrsAre vs ns
  | [], [], _, _ => .nil
  | v :: vs, n :: ns, hl, h => by
    obtain ⟨t, n', e, rfl⟩ := h 0 v rfl
    cases e
    exact .cons n t (strsAre_of_get vs ns (by simpa using hl) fun j v hv => h (j + 1) v hv)
  | [], _ :: _, hl, _ => by cases hl
  | _ :: _, [], hl, _ => by cases hl
end Mine
end
section
open PySem PySem.W PyProof.Rows
set_option Elab.async false
set_option maxRecDepth 100000
set_option maxHeartbeats 8000000
namespace Mine
theorem eq_bytes_self {prog : Program} {w : World} {A : Around} {E : Value → Shared → Prop} {s : Shared} {b : Array UInt8} {t u : Tok} {Q : Value → Shared → Prop} (h : Q (.bool true) s) : wpAny (model prog w) A (compareOp .Eq (.bytes b t) (.bytes b u)) Q E s :=
  eq_bytes (by rw [beq_self_eq_true]; exact h)
theorem txt_ones (l : List Nat) : Txt.join (Str.ofString "") (l.map fun k => (⟨#[k]⟩ : Str)) = ⟨l.toArray⟩ := (PySem.StrLaws.glued_eq_join _ _).trans (join_ones l)
theorem ones_small {l : List Nat} (h : l.length ≤ 12) : ((l.map fun k => (⟨#[k]⟩ : Str)).map (·.length)).sum + (l.map fun k => (⟨#[k]⟩ : Str)).length * 64 ≤ 16777216 := by
  have : ∀ l : List Nat, ((l.map fun k => (⟨#[k]⟩ : Str)).map (·.length)).sum = l.length := fun l => by
    induction l with
    | nil => rfl
    | cons a l ih => rw [List.map_cons, List.map_cons, List.sum_cons, ih]; exact Nat.add_comm 1 _
  rw [this, List.length_map]; omega
theorem turn_rule {w : World} {mean : ExcName → Option Value} {mg mb : Str → Option Value} {news : List (Addr × Obj)} {data : List UInt8} {td tw : Tok} {wN n : Nat}
    {dp un : Nat} {gd : Option (List Code)} {cn : Str} {cs : Scope} {a : Addr} {ccd : Value} {cl : List (Str × Addr)} {outer : List Env} {A₀ : Around} {base h₀ : Heap} {L : Addr} {m : Str → Option Value} {s : Shared} {Q : Value → Shared → Prop}
    (B : Below A₀ base outer h₀) (F : Fr h₀ L s.heap m) (X : Frag.In (Mine.hd.heap_39 w.params) h₀) (N : News h₀ L s.heap news) (T : Top Mine.hd.view_39 (looseW Mine.hd.view_39 []) mean mg mb h₀) (hk : cs.kind = .function)
    (h1 : 1 ≤ n) (hn : n ≤ 12) (hx : data.length = n) (hw : 1 ≤ wN) {q : Nat} (hq : n = q * wN) (hwn : wN ≤ n)
    (hd : dp + 5 < recursionLimit) (hu : un + 40 < cLine)
    (hret : ∀ (t : Tok) (h' : Heap) (tk' : Nat), Fr h₀ L h' m → News h₀ L h' news → Q (.str ⟨((turned data wN).map UInt8.toNat).toArray⟩ t) { s with heap := h', toks := tk' }) :
    wpS (model Challenge.rw_pg0078_01.row.prog w) (ktrTop dp un gd cn cs L a ccd cl outer) (call (.ref 40) [.bytes data.toArray td, .int (wN : Int) tw]) Q Never s := by
  have hsz : data.toArray.size = n := by rw [List.size_toArray]; exact hx
  w_on
  revert X; k_fill; intro X
  k_with_none
  k_with "call type:type cons nil" => (refine call_type_of (PySem.W.typeIs_bytes _ _ _) (by decide) ?_)
  k_with "compareOp Eq bytes bytes" => (refine eq_bytes_self ?_)
  k_with "subscriptTail Name BinOp bytes int" => (k_here; k_dflt (refine' bytes_item_K ?f ?a ?b ?e ?_; (case f => omega); (case a => exact (turn_idx hw hq (by omega) (by omega)).1); (case b => (rw [hx]; exact (turn_idx hw hq (by omega) (by omega)).2.1)); (case e => exact rfl)))
  refine wpS_call ?_
  k_dflt (refine' codeS_defC ?k1 ?k2 ?k3 ?k4 ?k5 ?kA ?kF ?kK ?k6 ?k7 ?k8 ?k9 ?kB ?kD ?_ ?c2 ?c3 ?c4; (case kA => exact rfl); (case kF => exact rfl); (case kK => assumption); (case k1 => k_asm); (case k2 => k_asm); (case k3 => k_asm); (case k4 => k_asm); (case k5 => k_asm); (case k6 => k_is); (case k7 => k_is); (case k8 => ktr_room); (case k9 => exact BindsTo.of_eq rfl); (case kB => exact rfl); (case kD => decide +kernel); (case c2 => exact rfl); (case c3 => exact rfl); (case c4 => exact rfl); k_whole; intro g' L' h' tk' cells' FG' F' N' Y' B' X' T' l1; k_cells Y'; (try simp only [List.cons_append, List.nil_append] at N'); (try dsimp only); (try k_lift B'))
  refine wpS_execs_cons ?_
  refine wpS_Assign_Swapped ?_
  refine wpS_Tuple ?_
  refine wpS_spliced_cons ?_
  refine wpS_Call ?_
  iterate 1 (focus (first | (k_unfold; (try dsimp only)) | (k_end; wrow_close) | walk1 | (dsimp only; walk1) | (leave1; walk_say "STEP leave1"; try dsimp only)))
  refine wpS_callWith (P := fun h => Frag.In (Mine.hd.heap_39 w.params) h) (fun h X => looks_keep (by k_is) X) ?_
  iterate 5 (focus (first | (k_unfold; (try dsimp only)) | (k_end; wrow_close) | walk1 | (dsimp only; walk1) | (leave1; walk_say "STEP leave1"; try dsimp only)))
  refine ⟨by k_in, ?_⟩
  dsimp only
  k_dflt (refine' swap_rule ?k1 ?k2 ?k3 ?k4 ?k5 ?kK h1 hn hx hw hq hwn ?kd ?ku ?_; (case k1 => k_asm); (case k2 => k_asm); (case k3 => k_asm); (case k4 => k_asm); (case k5 => k_asm); (case kK => exact rfl); (case kd => ktr_room); (case ku => ktr_units))
  clear F' N'
  intro t9 h9 tk9 F9 N9
  dsimp only
  refine wpS_of ?_
  iterate 18 (focus (first | (k_unfold; (try dsimp only)) | (k_end; wrow_close) | walk1 | (dsimp only; walk1) | (leave1; walk_say "STEP leave1"; try dsimp only)))
  refine wpS_of ?_
  dsimp only
  iterate 43 (focus (first | (k_unfold; (try dsimp only)) | (k_end; wrow_close) | walk1 | (dsimp only; walk1) | (leave1; walk_say "STEP leave1"; try dsimp only)))
  iterate 1 (focus (first | (k_unfold; (try dsimp only)) | (k_end; wrow_close) | walk1 | (dsimp only; walk1) | (leave1; walk_say "STEP leave1"; try dsimp only)))
  (rename Fr _ _ _ _ => F8); (rename News _ _ _ _ => N8); (rename IntsAre _ _ => I8)
  k_dflt (refine bytesOf_K F8 N8 (News.isList N8 (List.Mem.head _)) I8 (due_eq hx hw hq) (by rw [turned_length, hx]; omega) rfl ?_)
  clear F8 N8
  intro h8 t8 k8 F8 N8
  dsimp only
  iterate 30 (focus (first | (k_unfold; (try dsimp only)) | (k_end; wrow_close) | walk1 | (dsimp only; walk1) | (leave1; walk_say "STEP leave1"; try dsimp only)))
  iterate 2 (focus (first | (k_unfold; (try dsimp only)) | (k_end; wrow_close) | walk1 | (dsimp only; walk1) | (leave1; walk_say "STEP leave1"; try dsimp only)))
  (rename Fr _ _ _ _ => F7); (rename News _ _ _ _ => N7)
  have hcs : ∀ (i : Nat) (c : UInt8), (turned data wN).toArray[i]? = some c → ((turned data wN).map UInt8.toNat)[i]? = some c.toNat := by
    intro i c hc
    rw [List.getElem?_toArray] at hc
    rw [List.getElem?_map, hc]; rfl
  k_dflt (refine ListComp_bytesF (cl := []) F7 ?hc ?hce rfl ?hn ?hx ?_; (case hc => rfl); (case hce => decide); (case hn => decide); (case hx => decide +kernel))
  iterate 1 (focus (first | (k_unfold; (try dsimp only)) | (k_end; wrow_close) | walk1 | (dsimp only; walk1) | (leave1; walk_say "STEP leave1"; try dsimp only)))
  refine ⟨_, _, _, rfl, rfl, F7, N7, by rw [List.size_toArray, turned_length, hx]; exact Nat.le_trans hn (by decide), ?_⟩
  rintro s₂ ⟨hh, rfl⟩
  dsimp only
  refine comp_each (fun i y => ∃ c t, ((turned data wN).map UInt8.toNat)[i]? = some c ∧ y = .str ⟨#[c]⟩ t) ?_ ?_
  · clear F7 N7
    intro i v I oI C oC D m₂ ys h tk E' hi hP ho hm F7 N7 O ne
    obtain ⟨c, u, hc, rfl⟩ := hP
    have hcl : c.toNat < 256 := c.toNat_lt
    replace hcs := hcs i c hc
    dsimp only
    iterate 8 (focus (first | (k_unfold; (try dsimp only)) | (k_end; wrow_close) | walk1 | (dsimp only; walk1) | (leave1; walk_say "STEP leave1"; try dsimp only)))
    exact ⟨_, _, _, rfl, F7, N7, O, trivial, rfl, c.toNat, _, hcs, rfl⟩
  · intro ys7 hl7 hy7
    clear F7 N7
    intro D7 h7 tk7 F7 N7 O7
    have hS : StrsAre ys7 (((turned data wN).map UInt8.toNat).map fun k => (⟨#[k]⟩ : Str)) := strsAre_of_get _ _ (by rw [hl7, List.length_map, List.length_map, List.size_toArray]) (fun j v hv => by
      obtain ⟨c, t, h1, h2⟩ := hy7 j v hv
      exact ⟨t, _, by rw [List.getElem?_map, h1]; rfl, h2⟩)
    dsimp only
    iterate 1 (focus (first | (k_unfold; (try dsimp only)) | (k_end; wrow_close) | walk1 | (dsimp only; walk1) | (leave1; walk_say "STEP leave1"; try dsimp only)))
    refine join_listC (News.isList N7 (List.Mem.head _)) hS (by decide) (ones_small (by rw [List.length_map, turned_length, hx]; exact hn)) ?_
    intro t6 k6
    rw [txt_ones]
    dsimp only
    iterate 1 (focus (first | (k_unfold; (try dsimp only)) | (k_end; wrow_close) | walk1 | (dsimp only; walk1) | (leave1; walk_say "STEP leave1"; try dsimp only)))
    exact hret _ _ _ (by k_asm) (cb_drop (by assumption) (fun p hp => by simp [hp]))
end Mine
end
section
open PySem PySem.W PyProof.Rows PySem.Calls
open Sem (wp)
set_option Elab.async false
set_option maxRecDepth 100000
namespace Mine
theorem codeS_cells {prog : Program} {w : World} {A : Around} {R : Result → Shared → Prop} {s : Shared} {name : Str} {params : Arguments} {body : List Stmt} {scope : Scope}
    {pm cd doc : Value} {a : Addr} {o : Obj} {args : List Value} {binds : List (Str × Value)}
    (hroom : A.depth < recursionLimit) (ho : s.heap.get? a = some o) (hdata : o.data = .func (docDef name params body scope pm cd doc)) (hlim : s.heap.NoLimit) (hcd : s.heap.CodeRec cd name)
    (hbind : bindArgs (docDef name params body scope pm cd doc) ⟨args, []⟩ = pure binds)
    (hkind : (binds.all fun y => scope.names.lookup y.1 == some .local || scope.names.lookup y.1 == some .cell) = true) (hnd : ((cellsFrom 0 scope.names []).map (·.1)).Nodup)
    (h : ∀ h₁ tk cells, Fr s.heap s.heap.objs.size h₁ (bindL (envOfC name scope s.heap.objs.size a cd).kindOf binds fun _ => none) → News s.heap s.heap.objs.size h₁ cells →
      CellsAre (bindC (envOfC name scope s.heap.objs.size a cd).kindOf binds fun _ => none) (cellsFrom (s.heap.objs.size + 1) scope.names []) cells →
      wpS (model prog w) (A.deeper (envOfC name scope s.heap.objs.size a cd)) (execs body (envOfC name scope s.heap.objs.size a cd))
        (fun f s' => R (.ok (.ret (match f with | .ret v => v | _ => .none))) s') Never { s with heap := h₁, toks := tk })
    (hco : scope.isCoroutine = false) (hgen : scope.isGenerator = false) (hk : scope.kind = .function) : codeS (model prog w) A (.call (.ref a) ⟨args, []⟩) R s := by
  refine codeS_of_tree rfl ?_
  show wpS _ A.in1 (callAny (.ref a) ⟨args, []⟩) _ _ s
  simp only [callAny]
  refine wpS_then (wpAny_load ho ?_)
  rw [hdata]
  obtain ⟨c, occ, vs, tq, hc, hoc, hdc, hq⟩ := hcd
  have e1 : (docDef name params body scope pm cd doc).scope = scope := rfl
  simp only [callFunction, e1, hco, hgen]
  subst hc
  refine wpS_then (m := field (.ref c) 1) (wpAny_field hoc hdc hq (wpS_then (wpAny_pure ?_)))
  rw [hbind]
  refine wpS_then (wpAny_pure ?_)
  refine wpS_then (wpAny_newFunctionEnv_cells hk (kindsX hkind _) fun env' he s' x => ?_)
  subst he
  refine wpS_then (wpAny_enterFrame (hlim.keeps x.toInCall.keep) hroom (wpS_pure ⟨rfl, codeS_func ?_⟩))
  obtain ⟨h₁, tk, rfl, _⟩ := x.done
  obtain ⟨cells, NC, Y⟩ := Cl.news (h₀ := s.heap) (Nat.le_refl _) fun n c hm => ⟨x.cell n c (lookup_of_mem_nodup (cellsFrom_names scope.names 0 (s.heap.objs.size + 1) [] [] rfl ▸ hnd) hm), x.above n c hm⟩
  exact h h₁ tk cells ⟨x.toInCall.ns, x.toInCall.keep, x.toInCall.fresh⟩ NC Y
end Mine
end
section
open PySem PySem.W PyProof.Rows PySem.Calls
set_option Elab.async false
set_option maxRecDepth 100000
namespace Mine
section
variable {M : Model} {A : Around} {E : Value → Shared → Prop} {s : Shared} {env : Env} {a b c d : Stmt} {rest : List Stmt} {Q : Flow → Shared → Prop}
theorem split4 (J : Shared → Prop) (h2 : ∀ s', J s' → wpS M A (execs rest env) Q E s') (h1 : (∀ s', J s' → wpS M A (execs rest env) Q E s') → wpS M A (execs (a :: b :: c :: d :: rest) env) Q E s) :
    wpS M A (execs (a :: b :: c :: d :: rest) env) Q E s := h1 h2
theorem split3 (J : Shared → Prop) (h2 : ∀ s', J s' → wpS M A (execs rest env) Q E s') (h1 : (∀ s', J s' → wpS M A (execs rest env) Q E s') → wpS M A (execs (a :: b :: c :: rest) env) Q E s) :
    wpS M A (execs (a :: b :: c :: rest) env) Q E s := h1 h2
end
section
variable {prog : Program} {w : World} {A : Around} {s : Shared} {env : Env} {h₀ : Heap}
/-- a for over a range by ones: the frame stands but for the names that are stored -/
theorem wpS_For_names {x : Str} {px pos : Pos} {iter : Expr} {body : List Stmt} {Q : Flow → Shared → Prop} (stored : List Str)
    (hx : env.kindOf x = some .local) (hp : (env.scope.kind == .class || (env.scope.kind == .module && env.locals != env.globals)) = false) (hh : A.handled = none) (hxs : stored.contains x = true)
    (h : wpAny (model prog w) A (eval iter env) (fun xv s₁ => ∃ (r : Addr) (a b : Int) (t u v : Tok) (n : Nat) (m₀ : Str → Option Value) (news : List (Addr × Obj)),
      xv = .ref r ∧ IsRange s₁.heap r a b 1 t u v ∧ Builtin.Range.small a b 1 = true ∧ Builtin.Range.rangeSize a b 1 = (n : Int) ∧ Fr h₀ env.locals s₁.heap m₀ ∧ News h₀ env.locals s₁.heap news ∧
      (∀ (i : Nat) t (u : Str → Option Value) hp tk own, i < n → Fr h₀ env.locals hp (fun y => if y = x then some (.int (a + (i : Int)) t) else if stored.contains y = true then u y else m₀ y) → News h₀ env.locals hp (own ++ news) → OwnOff own (news.map (·.1)) →
        wpS (model prog w) A (execs body env) (InvPost h₀ env.locals (fun m' => ∀ z, stored.contains z = false → m' z = m₀ z) (own ++ news) { s₁ with heap := hp, toks := tk } Q) Never { s₁ with heap := hp, toks := tk }) ∧
      (∀ (u : Str → Option Value) hp tk, Fr h₀ env.locals hp (fun y => if stored.contains y = true then u y else m₀ y) → News h₀ env.locals hp news → Q .next { s₁ with heap := hp, toks := tk })) Never s)
    (hs : ∀ x, foldedSetIterable iter env x = pure x := by intro _; rfl) : wpS (model prog w) A (exec (.For (.Name x px) iter body [] pos) env) Q Never s := by
  refine wpS_For_range (h₀ := h₀) hx hp hh (wpAny_mono h (fun xv s₁ h₁ => ?_) fun _ _ x => x) hs
  obtain ⟨r, a, b, t, u, v, n, m₀, news, e, hr, hs', hn, F, N, turn, done⟩ := h₁
  have fold : ∀ m₁ : Str → Option Value, (∀ z, stored.contains z = false → m₁ z = m₀ z) → (fun y => if stored.contains y = true then m₁ y else m₀ y) = m₁ := fun m₁ h => by
    funext y
    cases h2 : stored.contains y with
    | true => rfl
    | false => exact (h y h2).symm
  refine ⟨r, a, b, t, u, v, n, m₀, news, fun _ m' => ∀ z, stored.contains z = false → m' z = m₀ z, e, hr, hs', hn, F, N, fun _ _ => rfl, ?_, ?_⟩
  · intro i t' m₁ hp' tk own hi hJ F₁ N₁ O
    refine turn i t' m₁ hp' tk own hi ?_ N₁ O
    have e2 : (fun y => if y = x then some (Value.int (a + (i : Int)) t') else if stored.contains y = true then m₁ y else m₀ y) = fun y => if y = x then some (Value.int (a + (i : Int)) t') else m₁ y := by
      funext y
      by_cases hy : y = x
      · rw [if_pos hy, if_pos hy]
      · rw [if_neg hy, if_neg hy]; exact congrFun (fold m₁ hJ) y
    rw [e2]; exact F₁
  · intro m₁ hp' tk hJ F₁ N₁
    refine done m₁ hp' tk ?_ N₁
    rw [fold m₁ hJ]; exact F₁
end
end Mine
end
section
open PySem PySem.W PyProof.Rows PySem.Calls PySem.SeqAt
set_option Elab.async false
set_option maxRecDepth 100000
namespace Mine
section
variable {prog : Program} {w : World} {A : Around} {E : Value → Shared → Prop} {s : Shared}
theorem ne_self_list {a b : Addr} {xs : Array Value} {Q : Value → Shared → Prop} (ha : s.heap.IsList a xs) (hb : s.heap.IsList b xs) (hu : A.units < cLine) (h : Q (.bool false) s) :
    wpAny (model prog w) A (compareOp .NotEq (.ref a) (.ref b)) Q E s := by
  have r := RcNeAt.lists (e := fun _ => true) ha hb rfl hu (fun j _ _ => EqAt.same _)
  have e : (!(List.range xs.size).all fun _ => true) = false := by simp
  rw [e] at r
  exact r prog w E Q h
end
end Mine
end
section
open PySem PySem.W PyProof.Rows
set_option Elab.async false
set_option maxRecDepth 100000
namespace Mine
structure LawData (n : Nat) (P O : List UInt8) : Prop where
  sz : n = 4 ∨ n = 6 ∨ n = 8 ∨ n = 12
  lP : P.length = n
  lO : O.length = n
  base : ∃ b : Nat → Nat, (∀ i, i < n → b i < 26) ∧ (∀ i j, i < n → j < n → b i = b j → i = j) ∧
    ∀ i, i < n → ((P.getD i 0).toNat = 97 + b i ∧ (O.getD i 0).toNat = 65 + b i) ∨ ((P.getD i 0).toNat = 65 + b i ∧ (O.getD i 0).toNat = 97 + b i)
def nearI (n W v : Int) : Int := 2 * n - 2 * v * (n.fdiv W - 1 + (W.fdiv v).fmod 2)
def farI (n W v : Int) : Int := 2 * n - v * (if (W.fdiv v).fmod 2 = 1 then n.fdiv W else if n.fdiv W - 2 > 0 then n.fdiv W - 2 else 0)
/-- the costs by places alone -/
def posC (d : Int) (n u v : Nat) : List (List Int) := (List.range n).map fun j => (List.range n).map fun i => if turnAt v j = turnAt u i then d else 2
def finOk (n i j : Nat) : Bool :=
  !(decide (2 + i ≤ n) && decide (1 + j < 2 + i) && n % (2 + i) == 0 && (2 + i) % (1 + j) == 0) ||
  (levOut (nearI (n : Int) (2 + (i : Int)) (1 + (j : Int))) 0 0 (rangeInts 2 2 n) (posC 0 n (1 + j) (2 + i)) == nearI (n : Int) (2 + (i : Int)) (1 + (j : Int)) && decide (0 ≤ nearI (n : Int) (2 + (i : Int)) (1 + (j : Int))) &&
  (levOut (farI (n : Int) (2 + (i : Int)) (1 + (j : Int))) 0 0 (rangeInts 2 2 n) (posC 1 n (2 + i) (1 + j)) == farI (n : Int) (2 + (i : Int)) (1 + (j : Int)) && decide (0 ≤ farI (n : Int) (2 + (i : Int)) (1 + (j : Int)))))
theorem fin4 : ((List.range 11).all fun i => (List.range 11).all fun j => finOk 4 i j) = true := by decide +kernel
theorem fin6 : ((List.range 11).all fun i => (List.range 11).all fun j => finOk 6 i j) = true := by decide +kernel
theorem fin8 : ((List.range 11).all fun i => (List.range 11).all fun j => finOk 8 i j) = true := by decide +kernel
theorem fin12 : ((List.range 11).all fun i => (List.range 11).all fun j => finOk 12 i j) = true := by decide +kernel
theorem fin_all {n i j : Nat} (hn : n = 4 ∨ n = 6 ∨ n = 8 ∨ n = 12) (h1 : 2 + i ≤ n) (h2 : 1 + j < 2 + i) (h3 : n % (2 + i) = 0) (h4 : (2 + i) % (1 + j) = 0) :
    (levOut (nearI (n : Int) (2 + (i : Int)) (1 + (j : Int))) 0 0 (rangeInts 2 2 n) (posC 0 n (1 + j) (2 + i)) = nearI (n : Int) (2 + (i : Int)) (1 + (j : Int)) ∧ 0 ≤ nearI (n : Int) (2 + (i : Int)) (1 + (j : Int))) ∧
    levOut (farI (n : Int) (2 + (i : Int)) (1 + (j : Int))) 0 0 (rangeInts 2 2 n) (posC 1 n (2 + i) (1 + j)) = farI (n : Int) (2 + (i : Int)) (1 + (j : Int)) ∧ 0 ≤ farI (n : Int) (2 + (i : Int)) (1 + (j : Int)) := by
  have get : ((List.range 11).all fun i => (List.range 11).all fun j => finOk n i j) = true → finOk n i j = true := fun h => by
    have a := List.all_eq_true.mp h i (List.mem_range.mpr (by omega))
    exact List.all_eq_true.mp a j (List.mem_range.mpr (by omega))
  have h : finOk n i j = true := by
    rcases hn with rfl | rfl | rfl | rfl
    · exact get fin4
    · exact get fin6
    · exact get fin8
    · exact get fin12
  unfold finOk at h
  rw [decide_eq_true h1, decide_eq_true h2, h3, h4] at h
  simp only [beq_self_eq_true, Bool.and_self, Bool.not_true, Bool.false_or, Bool.and_eq_true, beq_iff_eq, decide_eq_true_eq] at h
  exact h
theorem lower_small : ∀ b : Nat, b < 26 → Txt.lower ⟨#[97 + b]⟩ = ⟨#[97 + b]⟩ ∧ Txt.lower ⟨#[65 + b]⟩ = ⟨#[97 + b]⟩ := by decide +kernel
theorem one_ne {x y : Nat} (h : x ≠ y) : (⟨#[x]⟩ : Str) ≠ ⟨#[y]⟩ := fun e => h (by injection e with e; injection e with e; injection e)
/-- a sign's lower form -/
theorem lower_of {x b : Nat} (hb : b < 26) (h : x = 97 + b ∨ x = 65 + b) : Txt.lower ⟨#[x]⟩ = ⟨#[97 + b]⟩ := by
  rcases h with rfl | rfl
  · exact (lower_small b hb).1
  · exact (lower_small b hb).2
theorem sub_far {x y b c : Nat} (hb : b < 26) (hc : c < 26) (hx : x = 97 + b ∨ x = 65 + b) (hy : y = 97 + c ∨ y = 65 + c) (h : b ≠ c) : subCost ⟨#[x]⟩ ⟨#[y]⟩ = 2 ∧ ((⟨#[x]⟩ : Str) == ⟨#[y]⟩) = false := by
  have e : (⟨#[x]⟩ : Str) ≠ ⟨#[y]⟩ := one_ne (by omega)
  refine ⟨?_, by simpa using e⟩
  unfold subCost
  rw [if_neg e, lower_of hb hx, lower_of hc hy, if_neg (one_ne (by omega))]
theorem sub_case {x y b : Nat} (hb : b < 26) (h : (x = 97 + b ∧ y = 65 + b) ∨ (x = 65 + b ∧ y = 97 + b)) : subCost ⟨#[x]⟩ ⟨#[y]⟩ = 1 := by
  unfold subCost
  rw [if_neg (one_ne (by omega)), lower_of hb (x := x) (by omega), lower_of hb (x := y) (by omega), if_pos rfl]
/-- the turned row as a text -/
abbrev rowS (data : List UInt8) (w : Nat) : Str := ⟨((turned data w).map UInt8.toNat).toArray⟩
theorem rowS_length (data : List UInt8) (w : Nat) : (rowS data w).length = data.length := by
  show (((turned data w).map UInt8.toNat).toArray).size = _
  rw [List.size_toArray, List.length_map, turned_length]
theorem rowS_getD {data : List UInt8} {w p : Nat} (hp : p < data.length) : (rowS data w).cps.getD p 0 = (data.getD (turnAt w p) 0).toNat := by
  show (((turned data w).map UInt8.toNat).toArray).getD p 0 = _
  simp [turned, hp]
theorem rowS_item {data : List UInt8} {w p n : Nat} (hd : data.length = n) (hp : p < n) : Txt.item (rowS data w) (p : Int) = ⟨#[(data.getD (turnAt w p) 0).toNat]⟩ := by
  rw [item_meets ⟨by omega, by rw [rowS_length]; omega⟩]
  have e : ((p : Int)).toNat = p := rfl
  rw [e, rowS_getD (by omega)]
theorem rowS_last {data : List UInt8} {w n : Nat} (hd : data.length = n) (hp : 1 ≤ n) : Txt.item (rowS data w) (0 - 1) = ⟨#[(data.getD (turnAt w (n - 1)) 0).toNat]⟩ := by
  have e := eq_of_beq (item_closes_neg (x := rowS data w) (i := 0 - 1) (j := ((n - 1 : Nat) : Int)) (by omega) (by rw [rowS_length]; omega) (by rw [rowS_length]; omega))
  rw [e]
  have e2 : (((n - 1 : Nat) : Int)).toNat = n - 1 := rfl
  rw [e2, rowS_getD (by omega)]
theorem costs_near {n : Nat} {P O : List UInt8} (LD : LawData n P O) {u v q r : Nat} (hu : 0 < u) (hv : 0 < v) (hq : n = q * u) (hr : n = r * v) : costs (rowS P u) (rowS P v) n = posC 0 n u v := by
  obtain ⟨b, hb, hi, hs⟩ := LD.base
  unfold costs posC costRow
  refine List.map_congr_left fun j hj => List.map_congr_left fun i hi' => ?_
  have hj' := List.mem_range.mp hj
  have hi'' := List.mem_range.mp hi'
  rw [rowS_item LD.lP hj', rowS_item LD.lP hi'']
  have h1 : turnAt u i < n := by rw [hq]; exact turnAt_lt hu (by omega)
  have h2 : turnAt v j < n := by rw [hr]; exact turnAt_lt hv (by omega)
  by_cases e : turnAt v j = turnAt u i
  · rw [if_pos e, e]; unfold subCost; rw [if_pos rfl]
  · rw [if_neg e]
    have s1 := hs _ h1
    have s2 := hs _ h2
    exact (sub_far (hb _ h2) (hb _ h1) (by omega) (by omega) (fun x => e (hi _ _ h2 h1 x))).1
theorem costs_far {n : Nat} {P O : List UInt8} (LD : LawData n P O) {u v q r : Nat} (hu : 0 < u) (hv : 0 < v) (hq : n = q * u) (hr : n = r * v) : costs (rowS O u) (rowS P v) n = posC 1 n u v := by
  obtain ⟨b, hb, hi, hs⟩ := LD.base
  unfold costs posC costRow
  refine List.map_congr_left fun j hj => List.map_congr_left fun i hi' => ?_
  have hj' := List.mem_range.mp hj
  have hi'' := List.mem_range.mp hi'
  rw [rowS_item LD.lP hj', rowS_item LD.lO hi'']
  have h1 : turnAt u i < n := by rw [hq]; exact turnAt_lt hu (by omega)
  have h2 : turnAt v j < n := by rw [hr]; exact turnAt_lt hv (by omega)
  by_cases e : turnAt v j = turnAt u i
  · rw [if_pos e, e]
    have s1 := hs _ h1
    exact sub_case (hb _ h1) (by omega)
  · rw [if_neg e]
    have s1 := hs _ h1
    have s2 := hs _ h2
    exact (sub_far (hb _ h2) (hb _ h1) (by omega) (by omega) (fun x => e (hi _ _ h2 h1 x))).1
theorem turn_first {w : Nat} (hw : 0 < w) : turnAt w 0 = w - 1 := by
  unfold turnAt; rw [Nat.zero_div, Nat.zero_mod]; omega
theorem turn_last {w q n : Nat} (hw : 0 < w) (hq : n = q * w) (hn : 0 < n) : turnAt w (n - 1) = n - w := by
  have hq0 : 0 < q := by
    rcases Nat.eq_zero_or_pos q with h | h
    · rw [h, Nat.zero_mul] at hq; omega
    · exact h
  have e : n - 1 = (q - 1) * w + (w - 1 - 0) := by
    have : q * w = (q - 1) * w + w := by rw [← Nat.succ_mul]; congr 1; omega
    omega
  rw [e, turnAt_q hw]
  have : q * w = (q - 1) * w + w := by rw [← Nat.succ_mul]; congr 1; omega
  omega
/-- the first and the last signs are unlike -/
theorem ends_unlike {n : Nat} {P O D : List UInt8} (LD : LawData n P O) (hD : D = P ∨ D = O) {u v q r : Nat} (hu : 0 < u) (hv : 0 < v) (hq : n = q * u) (hr : n = r * v) (hun : u ≤ n) (hvn : v ≤ n) (huv : u ≠ v) :
    (Txt.item (rowS D u) 0 == Txt.item (rowS P v) 0) = false ∧ (Txt.item (rowS D u) (0 - 1) == Txt.item (rowS P v) (0 - 1)) = false ∧ (rowS D u == rowS P v) = false := by
  obtain ⟨b, hb, hi, hs⟩ := LD.base
  have hD' : D.length = n := by rcases hD with rfl | rfl; exact LD.lP; exact LD.lO
  have un : ∀ i j, i < n → j < n → i ≠ j → ((⟨#[(D.getD i 0).toNat]⟩ : Str) == ⟨#[(P.getD j 0).toNat]⟩) = false := fun i j h1 h2 hne => by
    have s1 := hs _ h1
    have s2 := hs _ h2
    refine (sub_far (hb _ h1) (hb _ h2) ?_ (by omega) (fun x => hne (hi _ _ h1 h2 x))).2
    rcases hD with rfl | rfl <;> omega
  have f0 : (Txt.item (rowS D u) 0 == Txt.item (rowS P v) 0) = false := by
    have := rowS_item (w := u) hD' (p := 0) (by omega)
    have h2 := rowS_item (w := v) LD.lP (p := 0) (by omega)
    simp only [Int.natCast_zero] at this h2
    rw [this, h2, turn_first hu, turn_first hv]
    exact un _ _ (by omega) (by omega) (by omega)
  refine ⟨f0, ?_, ?_⟩
  · rw [rowS_last hD' (by omega), rowS_last LD.lP (by omega), turn_last hu hq (by omega), turn_last hv hr (by omega)]
    exact un _ _ (by omega) (by omega) (by omega)
  · cases h : (rowS D u == rowS P v) with
    | false => rfl
    | true => rw [eq_of_beq h, beq_self_eq_true] at f0; cases f0
theorem in_small' {a b : Int} (h : -100 ≤ a ∧ a ≤ 100 ∧ -100 ≤ b ∧ b ≤ 100) : Builtin.Range.small a b 1 = true := by
  have f : ∀ x : Int, -1000 ≤ x → x ≤ 1000 → Builtin.Range.rangeFitsLong x = true := fun x h1 h2 => by
    unfold Builtin.Range.rangeFitsLong
    simp only [Bool.and_eq_true, decide_eq_true_eq]
    omega
  have r : 0 ≤ Builtin.Range.rangeSize a b 1 ∧ Builtin.Range.rangeSize a b 1 ≤ 200 := by
    unfold Builtin.Range.rangeSize
    rw [if_pos (by decide)]
    split <;> omega
  unfold Builtin.Range.small
  rw [f a (by omega) (by omega), f b (by omega) (by omega), f 1 (by omega) (by omega), f _ (by omega) (by omega), if_pos (by decide), f _ (by omega) (by omega)]
  simp
theorem in_size' {a b : Int} {n : Nat} (h : a ≤ b) (hn : (n : Int) = b - a) : Builtin.Range.rangeSize a b 1 = (n : Int) := by
  unfold Builtin.Range.rangeSize
  rw [if_pos (by decide)]
  split <;> omega
end Mine
end
section
open PySem PySem.W PyProof.Rows
set_option Elab.async false
set_option maxRecDepth 100000
namespace Mine
theorem size_nat {x : Int} (h : List.contains [4, 6, 8, 12] x = true) : ∃ n : Nat, x = (n : Int) ∧ (n = 4 ∨ n = 6 ∨ n = 8 ∨ n = 12) := by
  simp at h
  rcases h with rfl | rfl | rfl | rfl
  · exact ⟨4, rfl, by simp⟩
  · exact ⟨6, rfl, by simp⟩
  · exact ⟨8, rfl, by simp⟩
  · exact ⟨12, rfl, by simp⟩
theorem xor_oct : ∀ k : Nat, k < 256 → Builtin.bitXor (k : Int) 32 = ((k.toUInt8 ^^^ 32).toNat : Int) := by decide +kernel
theorem xor_byte (u : UInt8) : Builtin.bitXor ((u.toNat : Nat) : Int) 32 = (((u ^^^ 32).toNat : Nat) : Int) := by
  have := xor_oct u.toNat u.toNat_lt
  simpa using this
theorem xor_letter : ∀ b : Nat, b < 26 → ((97 + b).toUInt8.toNat = 97 + b ∧ (65 + b).toUInt8.toNat = 65 + b) ∧ ((97 + b).toUInt8 ^^^ 32).toNat = 65 + b ∧ ((65 + b).toUInt8 ^^^ 32).toNat = 97 + b := by decide +kernel
theorem xor_row {P : List UInt8} : List.map (fun v => Builtin.bitXor v 32) (P.map fun u => ((u.toNat : Nat) : Int)) = (P.map fun u => u ^^^ 32).map fun u => ((u.toNat : Nat) : Int) := by
  rw [List.map_map, List.map_map]
  exact List.map_congr_left fun u _ => xor_byte u
/-- the letters are unlike -/
theorem letters_apart {x st : Int} (hst : List.contains [1, 3, 5, 7, 9, 11, 15, 17] st = true) {i j : Nat} (hi : i < 12) (hj : j < 12) (h : (x + st * (i : Int)).fmod 26 = (x + st * (j : Int)).fmod 26) : i = j := by
  simp only [Int.fmod_eq_emod_of_nonneg _ (show (0 : Int) ≤ 26 by decide)] at h
  simp at hst
  rcases hst with rfl | rfl | rfl | rfl | rfl | rfl | rfl | rfl <;> omega
theorem letter_small (a : Int) : 0 ≤ a.fmod 26 ∧ a.fmod 26 < 26 := ⟨fmod_lo _ (by decide), fmod_hi _ (by decide)⟩
/-- one sign -/
def signB (b : Nat) (g : Int) : UInt8 := if g.fmod 2 = 1 then (65 + b).toUInt8 else (97 + b).toUInt8
theorem signB_int {x : Int} (g : Int) : 97 + x.fmod 26 - g.fmod 2 * 32 = (((signB (x.fmod 26).toNat g).toNat : Nat) : Int) := by
  have h := letter_small x
  have hx := xor_letter (x.fmod 26).toNat (by omega)
  have h2 : 0 ≤ g.fmod 2 := fmod_lo _ (by decide)
  have h3 : g.fmod 2 < 2 := fmod_hi _ (by decide)
  unfold signB
  split
  · rename_i e
    rw [hx.1.2, e]; omega
  · rename_i e
    rw [hx.1.1]; omega
theorem row_data {n : Nat} {x st : Int} {g : Int → Int} {ys : List Value} (hn : n = 4 ∨ n = 6 ∨ n = 8 ∨ n = 12) (hst : List.contains [1, 3, 5, 7, 9, 11, 15, 17] st = true)
    (hI : IntsAre ys (List.map (fun k : Int => 97 + (x + st * k).fmod 26 - (g k).fmod 2 * 32) (rangeKs 0 ((n : Int) - 0).toNat))) :
    ∃ P : List UInt8, LawData n P (P.map fun u => u ^^^ 32) ∧ IntsAre ys (P.map fun u => ((u.toNat : Nat) : Int)) := by
  have en : ((n : Int) - 0).toNat = n := by omega
  rw [en] at hI
  refine ⟨(List.range n).map fun (i : Nat) => signB ((x + st * (i : Int)).fmod 26).toNat (g (0 + (i : Int))), ⟨hn, by simp, by simp, fun i => ((x + st * (i : Int)).fmod 26).toNat, fun i _ => ?_, fun i j hi hj e => ?_, fun i hi => ?_⟩, ?_⟩
  · have := letter_small (x + st * (i : Int)); dsimp only; omega
  · have h1 := letter_small (x + st * (i : Int))
    have h2 := letter_small (x + st * (j : Int))
    exact letters_apart (x := x) hst (by omega) (by omega) (by dsimp only at e; omega)
  · have h1 := letter_small (x + st * (i : Int))
    have hx := xor_letter ((x + st * (i : Int)).fmod 26).toNat (by omega)
    simp only [List.getD_eq_getElem?_getD, List.getElem?_map, List.getElem?_range, hi, Option.map_some, Option.getD_some]
    unfold signB
    split
    · exact Or.inr ⟨hx.1.2, hx.2.2⟩
    · exact Or.inl ⟨hx.1.1, hx.2.1⟩
  · have e : List.map (fun u : UInt8 => ((u.toNat : Nat) : Int)) ((List.range n).map fun (i : Nat) => signB ((x + st * (i : Int)).fmod 26).toNat (g (0 + (i : Int)))) = List.map (fun k : Int => 97 + (x + st * k).fmod 26 - (g k).fmod 2 * 32) (rangeKs 0 n) := by
      unfold rangeKs
      rw [List.map_map, List.map_map]
      refine List.map_congr_left fun i _ => ?_
      simp only [Function.comp]
      rw [signB_int, Int.zero_add]
    rw [e]; exact hI
end Mine
end
section
open PySem PySem.W PyProof.Rows PySem.Calls
set_option Elab.async false
set_option maxRecDepth 100000
set_option maxHeartbeats 8000000
theorem Mine.contains_sub {l l' : List Str} {z : Str} (hs : ∀ y ∈ l, l'.contains y = true) (hz : l'.contains z = false) : l.contains z = false := by
  cases h : l.contains z with
  | false => rfl
  | true => have := hs z (List.contains_iff_mem.mp h); rw [hz] at this; cases this
theorem Mine.farI_pos {n W v : Int} (h : (W.fdiv v).fmod 2 = 1) : 2 * n - v * n.fdiv W = Mine.farI n W v := by rw [Mine.farI, if_pos h]
theorem Mine.farI_neg {n W v : Int} (h : ¬ (W.fdiv v).fmod 2 = 1) : (2 * n - v * if n.fdiv W - 2 > 0 then n.fdiv W - 2 else 0) = Mine.farI n W v := by rw [Mine.farI, if_neg h]
theorem Mine.some_int {x y : Int} {t : Tok} (h : x = y) : some (Value.int x t) = some (Value.int y t) := by rw [h]
theorem Mine.fr_form {h₀ h : Heap} {L : Addr} {stored : List Str} {a b c : Str} {x y : Int} {C : Option Value} {m' m₀ : Str → Option Value} (F : Fr h₀ L h m') (h1 : ∃ t, m' a = some (.int x t)) (h2 : ∃ t, m' b = some (.int y t)) (h3 : m' c = C) (hz : ∀ z, stored.contains z = false → m' z = m₀ z) :
    ∃ (t4 t5 : Tok) (u : Str → Option Value), Fr h₀ L h (fun z => if z = a then some (.int x t4) else if z = b then some (.int y t5) else if z = c then C else if stored.contains z = true then u z else m₀ z) := by
  obtain ⟨t4, h1⟩ := h1
  obtain ⟨t5, h2⟩ := h2
  refine ⟨t4, t5, m', ?_⟩
  have e : m' = (fun z => if z = a then some (.int x t4) else if z = b then some (.int y t5) else if z = c then C else if stored.contains z = true then m' z else m₀ z) := by
    funext z
    by_cases e1 : z = a
    · rw [if_pos e1, e1, h1]
    · rw [if_neg e1]
      by_cases e2 : z = b
      · rw [if_pos e2, e2, h2]
      · rw [if_neg e2]
        by_cases e3 : z = c
        · rw [if_pos e3, e3, h3]
        · rw [if_neg e3]
          cases h : stored.contains z with
          | true => rw [if_pos rfl]
          | false => rw [if_neg (by decide)]; exact hz z h
  exact e ▸ F
theorem Mine.mul_of_fmod {a b : Nat} {A B : Int} (hb : B = (b : Int) ∧ A = (a : Int)) (h : A.fmod B = 0) : ∃ q, a = q * b := by
  obtain ⟨rfl, rfl⟩ := hb
  rw [Int.fmod_eq_emod_of_nonneg _ (Int.natCast_nonneg _)] at h
  have h' : a % b = 0 := by exact_mod_cast h
  exact ⟨a / b, by have := Nat.div_add_mod a b; rw [h', Nat.add_zero, Nat.mul_comm] at this; exact this.symm⟩
theorem Mine.lev_near {w : World} {mean : ExcName → Option Value} {mg mb : Str → Option Value} {news : List (Addr × Obj)} {x y : Str} {tx ty tm : Tok} {mx : Int} {n : Nat}
    {dp un : Nat} {gd : Option (List Code)} {cn : Str} {cs : Scope} {a : Addr} {ccd : Value} {cl : List (Str × Addr)} {outer : List Env} {A₀ : Around} {base h₀ : Heap} {L : Addr} {m : Str → Option Value} {s : Shared} {Q E : Value → Shared → Prop} {C : List (List Int)}
    (B : Below A₀ base outer h₀) (F : Fr h₀ L s.heap m) (X : Frag.In (Mine.hd.heap_39 w.params) h₀) (N : News h₀ L s.heap news) (T : Top Mine.hd.view_39 (looseW Mine.hd.view_39 []) mean mg mb h₀) (hk : cs.kind = .function)
    (hn : 4 ≤ n ∧ n ≤ 12) (hx : x.length = n) (hy : y.length = n) (hU : (Txt.item x 0 == Txt.item y 0) = false ∧ (Txt.item x (0 - 1) == Txt.item y (0 - 1)) = false ∧ (x == y) = false)
    (hC : Mine.costs x y n = C) (hF : Mine.levOut mx 0 0 (rangeInts 2 2 n) C = mx ∧ 0 ≤ mx) (hd : dp + 3 < recursionLimit) (hu : un + 20 < cLine)
    (hret : ∀ (t : Tok) (h' : Heap) (tk' : Nat), Fr h₀ L h' m → News h₀ L h' news → Q (.int mx t) { s with heap := h', toks := tk' }) :
    wpAny (model Challenge.rw_pg0078_01.row.prog w) (ktrTop dp un gd cn cs L a ccd cl outer) (call (.ref 28) [.str x tx, .str y ty, .int mx tm]) Q E s := by
  refine Mine.lev_rule B F X N T hk (by omega) hn.2 hx hy hU.2.2 hU.1 hU.2.1 hF.2 hd hu ?_
  rw [hC, hF.1]
  exact hret
theorem Mine.no_empty {x y z : Str} {n : Nat} (hx : x.length = n) (hy : y.length = n) (hz : z.length = n) (hn : 1 ≤ n) : ¬ ([x, y, z].any fun x => x == Str.ofString "") = true := by
  have ne : ∀ x : Str, x.length = n → (x == Str.ofString "") = false := fun x hx => by
    cases h : x == Str.ofString "" with
    | false => rfl
    | true =>
      have e : (Str.ofString "").length = 0 := by decide
      rw [eq_of_beq h, e] at hx
      omega
  simp only [List.any_cons, List.any_nil, ne _ hx, ne _ hy, ne _ hz]
  decide
theorem Mine.src_second {h₀ : Heap} {ax : Addr} {its : Array Value} {p : Addr × Obj} {n : Nat} {rest : List (Addr × Obj)} : LCg.SrcAt h₀ ax its (p :: (ax, listOf its n) :: rest) :=
  Or.inr ⟨_, List.mem_cons_of_mem _ (List.mem_cons_self ..), rfl, n, rfl⟩
theorem Mine.pick_item {prog : Program} {w : World} {A : Around} {E : Value → Shared → Prop} {s : Shared} {value slice : PySem.Expr} {l : Addr} {vs : List Value} {ns : List Int} {k : Int} {u : Tok} {Q : Value → Shared → Prop} (hl : s.heap.IsList l vs.toArray) (hi : IntsAre vs ns)
    (h0 : 0 ≤ k) (h1 : k < ns.length) (hz : ns.length ≤ 100) (h : ∀ st t, ns.contains st = true → Q (.int st t) s)
    (hs : subscripted slice false (.ref l) (.int k u) = operate [.ref l, .int k u] (getItem (.ref l) (.int k u)) := by with_unfolding_all rfl) :
    wpAny (model prog w) A (subscriptTail value slice (.ref l) (.int k u)) Q E s := by
  refine item_anyK hl hi h0 h1 (by omega) (fun t => h _ t ?_) hs
  rw [List.contains_iff_mem, show ns.getD k.toNat 0 = ns[k.toNat]'(by omega) from by simp [List.getD, show k.toNat < ns.length by omega]]
  exact List.getElem_mem _
theorem Mine.fr3 {h₀ h : Heap} {L : Addr} {a b c : Str} {x : Int} {P O : Array UInt8} {m' : Str → Option Value} (F : Fr h₀ L h m') (h1 : ∃ t, m' a = some (.int x t)) (h2 : ∃ t, m' b = some (.bytes P t)) (h3 : ∃ t, m' c = some (.bytes O t)) :
    ∃ (t1 t2 t3 : Tok) (u : Str → Option Value), Fr h₀ L h (fun y => if y = a then some (.int x t1) else if y = b then some (.bytes P t2) else if y = c then some (.bytes O t3) else u y) := by
  obtain ⟨t1, h1⟩ := h1
  obtain ⟨t2, h2⟩ := h2
  obtain ⟨t3, h3⟩ := h3
  refine ⟨t1, t2, t3, m', ?_⟩
  have e : m' = (fun y => if y = a then some (.int x t1) else if y = b then some (.bytes P t2) else if y = c then some (.bytes O t3) else m' y) := by
    funext z
    by_cases e1 : z = a
    · rw [if_pos e1, e1, h1]
    · rw [if_neg e1]
      by_cases e2 : z = b
      · rw [if_pos e2, e2, h2]
      · rw [if_neg e2]
        by_cases e3 : z = c
        · rw [if_pos e3, e3, h3]
        · rw [if_neg e3]
  exact e ▸ F
theorem Mine.ints_at : ∀ {vs : List Value} {ns : List Int}, IntsAre vs ns → ∀ {i : Nat} {v : Value}, vs.toArray[i]? = some v → ∃ (n : Int) (t : Tok), ns[i]? = some n ∧ v = .int n t
  | _, _, .nil, _, _, h => by simp at h
  | _, _, .cons n t r, 0, _, h => by
    simp at h
    exact ⟨n, t, rfl, h.symm⟩
  | _, _, .cons n t r, i + 1, _, h => by
    have := Mine.ints_at r (i := i) (by simpa using h)
    simpa using this
theorem Mine.ints_of_get : ∀ (vs : List Value) (ns : List Int), vs.length = ns.length → (∀ (j : Nat) v, vs[j]? = some v → ∃ n t, ns[j]? = some n ∧ v = .int n t) → IntsAre vs ns
  | [], [], _, _ => .nil
  | v :: vs, n :: ns, hl, h => by
    obtain ⟨n', t, e, rfl⟩ := h 0 v rfl
    cases e
    exact .cons n t (Mine.ints_of_get vs ns (by simpa using hl) fun j v hv => h (j + 1) v hv)
  | [], _ :: _, hl, _ => by cases hl
  | _ :: _, [], hl, _ => by cases hl
theorem Mine.src_head {h₀ : Heap} {ax : Addr} {ys : List Value} {rest : List (Addr × Obj)} : LCg.SrcAt h₀ ax ys.toArray ((ax, LCg.lst ys) :: rest) :=
  Or.inr ⟨_, List.mem_cons_self .., rfl, _, rfl⟩
end
open PySem PySem.W PyProof.Rows PySem.Calls
set_option Elab.async false
set_option maxRecDepth 100000
set_option maxHeartbeats 8000000
theorem PySem.Challenge.cw_pg0078_01_holds : PySem.Challenge.rw_pg0078_01.Holds := by
  k_with_none
  refine Mine.hd ?_
  w_on
  w_strict (
  k_fill
  intro w s₀ s₁ mg mb G Y fa o pm cd doc dV kV ho hd hcd hD hmg hg args vals as hpre hlay hrd hwl hlo
  have KX := kIn_of Y
  have X := (Ground.X G).1
  have V := (Ground.X G).2
  try w_nolog (first | (have GL := glob_more (Ground.glob G (by first | k_qdec | decide +kernel) (by first | k_qdec | decide +kernel)) V) | (have GL := glob_more (Ground.glob G (by decide +kernel)) V))
  refine Ground.open G ?_
  intro T B D TE TW
  try (refine guard_noD D (by decide +kernel) ?_; clear D)
  obtain ⟨_, _, M⟩ := bmod_of_top T
  have TA := at_of_top T
  try (obtain ⟨_, _, he, B0⟩ := based_of_top T rfl hmg ho hd; have he' : cd = _ := he; subst he'; clear he)
  clear hmg
  wrow_args hpre hlay hrd hwl hlo
  have he := Dflts.none hD rfl; subst he; have he := Dflts.noKw hD; subst he
  have K0 := below_caller (Top.heap T)
  refine Mine.wpS_call ?_
  k_dflt (refine Mine.codeS_cells (by decide) ho (fd_plain hd) (Top.nolimit T) hcd rfl rfl (by decide) (fun h₁ tk₁ cells F N0 X0 => ?_) rfl rfl rfl)
  cells_open X0
  clear hd TA
  k_drop
  refine Mine.split4 (fun s' => ∃ (n : Nat) (P O : List UInt8) (t1 t2 t3 : Tok) (u : Str → Option Value) (h : Heap) (tk : Nat), s' = { s₁ with heap := h, toks := tk } ∧
    Fr s₁.heap s₁.heap.objs.size h (fun y => if y = Str.ofString "size" then some (.int (n : Int) t1) else if y = Str.ofString "plain" then some (.bytes P.toArray t2) else if y = Str.ofString "other" then some (.bytes O.toArray t3) else u y) ∧
    News s₁.heap s₁.heap.objs.size h [] ∧ Mine.LawData n P O) ?_ ?_
  rotate_left
  · intro key
    k_with_none
    k_with "subscriptTail List cons Call ref int" => (k_here; with_unfolding_all (refine' Mine.pick_item ?k1 ?k2 ?k3 ?k4 ?k5 ?_; (case k1 => is_list); (case k2 => l_ints); (case k3 => l_idx); (case k4 => l_idx); (case k5 => decide)); intro st tst hst)
    k_with "subscriptTail List cons BinOp ref int" => (k_here; with_unfolding_all (refine' Mine.pick_item ?k1 ?k2 ?k3 ?k4 ?k5 ?_; (case k1 => is_list); (case k2 => l_ints); (case k3 => exact fmod_lo _ (by decide)); (case k4 => exact fmod_hi _ (by decide)); (case k5 => decide)); intro st tst hst)
    refine Mine.wpS_execs_cons (Mine.wpS_of ?_)
    (try dsimp only)
    iterate 55 (focus (first | (k_unfold; (try dsimp only)) | (k_end; wrow_close) | walk1 | (dsimp only; walk1) | (leave1; walk_say "STEP leave1"; try dsimp only)))
    (try dsimp only)
    rename List.contains [4, 6, 8, 12] _ = true => hsz
    obtain ⟨n, rfl, hn⟩ := Mine.size_nat hsz
    refine Mine.wpS_execs_cons (Mine.wpS_of ?_)
    (try dsimp only)
    iterate 30 (focus (first | (k_unfold; (try dsimp only)) | (k_end; wrow_close) | walk1 | (dsimp only; walk1) | (leave1; walk_say "STEP leave1"; try dsimp only)))
    (try dsimp only)
    refine Mine.wpS_execs_cons (Mine.wpS_of ?_)
    (try dsimp only)
    iterate 54 (focus (first | (k_unfold; (try dsimp only)) | (k_end; wrow_close) | walk1 | (dsimp only; walk1) | (leave1; walk_say "STEP leave1"; try dsimp only)))
    (try dsimp only)
    rename IntsAre _ (List.map _ (rangeKs _ _)) => hI8
    obtain ⟨P, LD, hP⟩ := Mine.row_data hn hst hI8
    clear hI8
    refine Mine.wpS_execs_cons (Mine.wpS_of ?_)
    (try dsimp only)
    iterate 6 (focus (first | (k_unfold; (try dsimp only)) | (k_end; wrow_close) | walk1 | (dsimp only; walk1) | (leave1; walk_say "STEP leave1"; try dsimp only)))
    iterate 3 (focus (first | (k_unfold; (try dsimp only)) | (k_end; wrow_close) | walk1 | (dsimp only; walk1) | (leave1; walk_say "STEP leave1"; try dsimp only)))
    (rename Fr _ _ _ _ => F8); (rename News _ _ _ _ => N8)
    k_dflt (refine Mine.bytesOf_K F8 N8 (News.isList N8 (List.Mem.head _)) hP rfl (by rw [LD.lP]; omega) rfl ?_)
    clear F8 N8
    intro h8 t8 k8 F8 N8
    (try dsimp only)
    iterate 4 (focus (first | (k_unfold; (try dsimp only)) | (k_end; wrow_close) | walk1 | (dsimp only; walk1) | (leave1; walk_say "STEP leave1"; try dsimp only)))
    iterate 1 (focus (first | (k_unfold; (try dsimp only)) | (k_end; wrow_close) | walk1 | (dsimp only; walk1) | (leave1; walk_say "STEP leave1"; try dsimp only)))
    k_here
    k_dflt (refine LCg.ListComp_U (F₀ := by k_asm) (by with_unfolding_all rfl) (by decide) (by rfl) (by decide) (by rfl) ?_)
    iterate 1 (focus (first | (k_unfold; (try dsimp only)) | (k_end; wrow_close) | walk1 | (dsimp only; walk1) | (leave1; walk_say "STEP leave1"; try dsimp only)))
    k_dflt (refine LCg.CompSrc.ledger (by rfl) F8 N8 (List.Mem.head _) ?hsz ?_)
    case hsz => rw [List.size_toArray, hP.length, List.length_map, LD.lP, sizeLine_eq]; omega
    intro g'
    refine Mine.comp_each (fun i y => ∃ v t, (List.map (fun v => Builtin.bitXor v 32) (P.map fun u => ((u.toNat : Nat) : Int)))[i]? = some v ∧ y = .int v t) ?_ ?_
    · clear F8 N8
      intro i v I oI C oC D m₂ ys7 h tk E' hi hv ho hm F7 N7 O ne
      obtain ⟨c, u, hc, rfl⟩ := Mine.ints_at hP hv
      have hc2 : (List.map (fun v => Builtin.bitXor v 32) (P.map fun u => ((u.toNat : Nat) : Int)))[i]? = some (Builtin.bitXor c 32) := by rw [List.getElem?_map, hc]; rfl
      clear hv
      dsimp only
      iterate 4 (focus (first | (k_unfold; (try dsimp only)) | (k_end; wrow_close) | walk1 | (dsimp only; walk1) | (leave1; walk_say "STEP leave1"; try dsimp only)))
      exact ⟨_, _, _, rfl, F7, N7, O, Mine.src_head, rfl, _, _, hc2, rfl⟩
    · intro ys7 hl7 hy7
      clear F8 N8
      intro D7 h7 tk7 F7 N7 O7
      have hO := Mine.ints_of_get ys7 _ (by rw [hl7, List.length_map, List.size_toArray, hP.length]) hy7
      rw [Mine.xor_row] at hO
      dsimp only
      iterate 1 (focus (first | (k_unfold; (try dsimp only)) | (k_end; wrow_close) | walk1 | (dsimp only; walk1) | (leave1; walk_say "STEP leave1"; try dsimp only)))
      k_dflt (refine Mine.bytesOf_K F7 N7 (News.isList N7 (List.Mem.head _)) hO rfl (by rw [List.length_map, LD.lP]; omega) rfl ?_)
      clear F7 N7
      intro h9 t9 k9 F9 N9
      (try dsimp only)
      iterate 10 (focus (first | (k_unfold; (try dsimp only)) | (k_end; wrow_close) | walk1 | (dsimp only; walk1) | (leave1; walk_say "STEP leave1"; try dsimp only)))
      (try dsimp only)
      (rename Fr _ _ _ _ => F2); (rename News _ _ _ _ => N2)
      obtain ⟨t1, t2, t3, u, F3⟩ := Mine.fr3 (a := Str.ofString "size") (b := Str.ofString "plain") (c := Str.ofString "other") F2 ⟨_, rfl⟩ ⟨_, rfl⟩ ⟨_, rfl⟩
      exact key _ ⟨n, P, _, t1, t2, t3, u, _, _, rfl, F3, fun p hp => absurd hp (List.not_mem_nil), LD⟩
  k_with_none
  clear F N0
  rintro s' ⟨n, P, O, t1, t2, t3, u1, h, tk, rfl, F, N0, LD⟩
  refine Mine.wpS_execs_cons ?_
  dsimp only
  refine Mine.wpS_For_names (h₀ := s₁.heap) [Str.ofString "wide", Str.ofString "w", Str.ofString "words", Str.ofString "parts", Str.ofString "near", Str.ofString "far", Str.ofString "rows", Str.ofString "told"] rfl rfl rfl (by decide +kernel) ?_
  clear G Y
  iterate 12 (focus (first | (k_unfold; (try dsimp only)) | (k_end; wrow_close) | walk1 | (dsimp only; walk1) | (leave1; walk_say "STEP leave1"; try dsimp only)))
  (rename Fr _ _ _ _ => F2); (rename News _ _ _ _ => N2); (rename IsRange _ _ _ _ _ _ _ _ => R2)
  have n12 : 4 ≤ n ∧ n ≤ 12 := by have := LD.sz; omega
  refine ⟨_, _, _, _, _, _, n - 1, _, _, rfl, R2, Mine.in_small' (by omega), Mine.in_size' (by omega) (by omega), F2, N2, ?_, ?_⟩
  rotate_left
  · clear F2 N2 R2; (try (rename Fr _ _ _ _ => Fz; clear Fz)); (try (rename News _ _ _ _ => Fz; clear Fz))
    intro u2 h2 tk2 F N
    replace F : Fr s₁.heap s₁.heap.objs.size _ _ := F
    replace N : News s₁.heap s₁.heap.objs.size _ _ := N
    dsimp only
    refine Mine.wpS_of ?_
    iterate 3 (focus (first | (k_unfold; (try dsimp only)) | (k_end; wrow_close) | walk1 | (dsimp only; walk1) | (leave1; walk_say "STEP leave1"; try dsimp only)))
    dsimp only
    refine GoodW.toG ?_
    wrow_close
  clear F2 N2 R2; (try (rename Fr _ _ _ _ => Fz; clear Fz)); (try (rename News _ _ _ _ => Fz; clear Fz))
  intro i ti u2 h2 tk2 own2 hi F N O2
  replace F : Fr s₁.heap s₁.heap.objs.size _ _ := F
  replace N : News s₁.heap s₁.heap.objs.size _ _ := N
  dsimp only
  refine Mine.wpS_execs_cons ?_
  refine Mine.wpS_For_names (h₀ := s₁.heap) [Str.ofString "w", Str.ofString "words", Str.ofString "parts", Str.ofString "near", Str.ofString "far", Str.ofString "rows", Str.ofString "told"] rfl rfl rfl (by decide +kernel) ?_
  iterate 9 (focus (first | (k_unfold; (try dsimp only)) | (k_end; wrow_close) | walk1 | (dsimp only; walk1) | (leave1; walk_say "STEP leave1"; try dsimp only)))
  (rename Fr _ _ _ _ => F2); (rename News _ _ _ _ => N2); (rename IsRange _ _ _ _ _ _ _ _ => R2)
  refine ⟨_, _, _, _, _, _, i + 1, _, _, rfl, R2, Mine.in_small' (by omega), Mine.in_size' (by omega) (by omega), F2, N2, ?_, ?_⟩
  rotate_left
  · clear F2 N2 R2; (try (rename Fr _ _ _ _ => Fz; clear Fz)); (try (rename News _ _ _ _ => Fz; clear Fz))
    intro u3 h3 tk3 F N
    replace F : Fr s₁.heap s₁.heap.objs.size _ _ := F
    replace N : News s₁.heap s₁.heap.objs.size _ _ := N
    dsimp only
    refine Mine.wpS_of ?_
    iterate 2 (focus (first | (k_unfold; (try dsimp only)) | (k_end; wrow_close) | walk1 | (dsimp only; walk1) | (leave1; walk_say "STEP leave1"; try dsimp only)))
    refine InvEnd.intro F N (fun p hp => hp) (fun z hz => ?_)
    have h1 : List.contains [Str.ofString "w", Str.ofString "words", Str.ofString "parts", Str.ofString "near", Str.ofString "far", Str.ofString "rows", Str.ofString "told"] z = false := Mine.contains_sub (by decide +kernel) hz
    have h2 : ¬ z = Str.ofString "wide" := fun e => by rw [e] at hz; revert hz; decide +kernel
    rw [if_neg (by rw [h1]; decide), if_neg h2, if_neg (by rw [hz]; decide)]
  clear F2 N2 R2; (try (rename Fr _ _ _ _ => Fz; clear Fz)); (try (rename News _ _ _ _ => Fz; clear Fz))
  intro j tj u3 h3 tk3 own3 hj F N O3
  replace F : Fr s₁.heap s₁.heap.objs.size _ _ := F
  replace N : News s₁.heap s₁.heap.objs.size _ _ := N
  dsimp only
  refine Mine.wpS_execs_cons ?_
  refine Mine.wpS_If ?_
  iterate 24 (focus (first | (k_unfold; (try dsimp only)) | (k_end; wrow_close) | walk1 | (dsimp only; walk1) | (leave1; walk_say "STEP leave1"; try dsimp only)))
  rotate_left
  · refine Mine.wpS_execs_nil ?_
    dsimp only
    refine Mine.wpS_execs_nil ?_
    (rename Fr _ _ _ _ => F2); (rename News _ _ _ _ => N2)
    exact InvEnd.intro F2 N2 (fun p hp => hp) (fun z hz => by rw [if_neg (fun e => by rw [e] at hz; revert hz; decide +kernel), if_neg (by rw [hz]; decide)])
  · refine Mine.wpS_execs_nil ?_
    dsimp only
    refine Mine.wpS_execs_nil ?_
    (rename Fr _ _ _ _ => F2); (rename News _ _ _ _ => N2)
    exact InvEnd.intro F2 N2 (fun p hp => hp) (fun z hz => by rw [if_neg (fun e => by rw [e] at hz; revert hz; decide +kernel), if_neg (by rw [hz]; decide)])
  (rename Fr _ _ _ _ => F2); (rename News _ _ _ _ => N2)
  refine Mine.split3 (fun s' => ∃ (t4 t5 : Tok) (u : Str → Option Value) (h : Heap) (tk : Nat), s' = { s₁ with heap := h, toks := tk } ∧
    Fr s₁.heap s₁.heap.objs.size h (fun y => if y = Str.ofString "near" then some (.int (Mine.nearI n (2 + (i : Int)) (1 + (j : Int))) t4) else if y = Str.ofString "far" then some (.int (Mine.farI n (2 + (i : Int)) (1 + (j : Int))) t5) else
      if y = Str.ofString "w" then some (.int (1 + (j : Int)) tj) else if List.contains [Str.ofString "w", Str.ofString "words", Str.ofString "parts", Str.ofString "near", Str.ofString "far", Str.ofString "rows", Str.ofString "told"] y = true then u y else if y = Str.ofString "wide" then some (.int (2 + (i : Int)) ti) else
      if List.contains [Str.ofString "wide", Str.ofString "w", Str.ofString "words", Str.ofString "parts", Str.ofString "near", Str.ofString "far", Str.ofString "rows", Str.ofString "told"] y = true then u2 y else
      if y = Str.ofString "size" then some (.int (n : Int) t1) else if y = Str.ofString "plain" then some (.bytes P.toArray t2) else if y = Str.ofString "other" then some (.bytes O.toArray t3) else u1 y) ∧
    News s₁.heap s₁.heap.objs.size h (own3 ++ (own2 ++ []))) ?_ ?_
  rotate_left
  · intro key
    refine Mine.wpS_execs_cons (Mine.wpS_of ?_)
    (try dsimp only)
    iterate 22 (focus (first | (k_unfold; (try dsimp only)) | (k_end; wrow_close) | walk1 | (dsimp only; walk1) | (leave1; walk_say "STEP leave1"; try dsimp only)))
    (try dsimp only)
    refine Mine.wpS_execs_cons (Mine.wpS_of ?_)
    (try dsimp only)
    iterate 24 (focus (first | (k_unfold; (try dsimp only)) | (k_end; wrow_close) | walk1 | (dsimp only; walk1) | (leave1; walk_say "STEP leave1"; try dsimp only)))
    (try dsimp only)
    refine Mine.wpS_execs_cons (Mine.wpS_of ?_)
    (try dsimp only)
    iterate 18 (focus (first | (k_unfold; (try dsimp only)) | (k_end; wrow_close) | walk1 | (dsimp only; walk1) | (leave1; walk_say "STEP leave1"; try dsimp only)))
    · iterate 4 (focus (first | (k_unfold; (try dsimp only)) | (k_end; wrow_close) | walk1 | (dsimp only; walk1) | (leave1; walk_say "STEP leave1"; try dsimp only)))
      (try dsimp only)
      (rename Fr _ _ _ _ => F2); (rename News _ _ _ _ => N2)
      have hpar : ((2 + (i : Int)).fdiv (1 + (j : Int))).fmod 2 = 1 := by assumption
      obtain ⟨t4, t5, u, F3⟩ := Mine.fr_form (stored := [Str.ofString "w", Str.ofString "words", Str.ofString "parts", Str.ofString "near", Str.ofString "far", Str.ofString "rows", Str.ofString "told"]) (a := Str.ofString "near") (b := Str.ofString "far") (c := Str.ofString "w") (x := Mine.nearI n (2 + (i : Int)) (1 + (j : Int))) (y := Mine.farI n (2 + (i : Int)) (1 + (j : Int))) (m₀ := fun y => if y = Str.ofString "wide" then some (.int (2 + (i : Int)) ti) else if List.contains [Str.ofString "wide", Str.ofString "w", Str.ofString "words", Str.ofString "parts", Str.ofString "near", Str.ofString "far", Str.ofString "rows", Str.ofString "told"] y = true then u2 y else if y = Str.ofString "size" then some (.int (n : Int) t1) else if y = Str.ofString "plain" then some (.bytes P.toArray t2) else if y = Str.ofString "other" then some (.bytes O.toArray t3) else u1 y) F2 ⟨_, rfl⟩ ⟨_, (if_pos rfl).trans (Mine.some_int (Mine.farI_pos hpar))⟩ rfl (fun z hz => by
        rw [if_neg (fun e => by rw [e] at hz; revert hz; decide +kernel), if_neg (fun e => by rw [e] at hz; revert hz; decide +kernel), if_neg (fun e => by rw [e] at hz; revert hz; decide +kernel), if_neg (fun e => by rw [e] at hz; revert hz; decide +kernel), if_neg (fun e => by rw [e] at hz; revert hz; decide +kernel), if_neg (by rw [hz]; decide)])
      exact key _ ⟨t4, t5, u, _, _, rfl, F3, fun p hp => N2 p (List.mem_cons_of_mem _ hp)⟩
    · iterate 15 (focus (first | (k_unfold; (try dsimp only)) | (k_end; wrow_close) | walk1 | (dsimp only; walk1) | (leave1; walk_say "STEP leave1"; try dsimp only)))
      (try dsimp only)
      (rename Fr _ _ _ _ => F2); (rename News _ _ _ _ => N2)
      have hpar : ¬ ((2 + (i : Int)).fdiv (1 + (j : Int))).fmod 2 = 1 := by assumption
      obtain ⟨t4, t5, u, F3⟩ := Mine.fr_form (stored := [Str.ofString "w", Str.ofString "words", Str.ofString "parts", Str.ofString "near", Str.ofString "far", Str.ofString "rows", Str.ofString "told"]) (a := Str.ofString "near") (b := Str.ofString "far") (c := Str.ofString "w") (x := Mine.nearI n (2 + (i : Int)) (1 + (j : Int))) (y := Mine.farI n (2 + (i : Int)) (1 + (j : Int))) (m₀ := fun y => if y = Str.ofString "wide" then some (.int (2 + (i : Int)) ti) else if List.contains [Str.ofString "wide", Str.ofString "w", Str.ofString "words", Str.ofString "parts", Str.ofString "near", Str.ofString "far", Str.ofString "rows", Str.ofString "told"] y = true then u2 y else if y = Str.ofString "size" then some (.int (n : Int) t1) else if y = Str.ofString "plain" then some (.bytes P.toArray t2) else if y = Str.ofString "other" then some (.bytes O.toArray t3) else u1 y) F2 ⟨_, rfl⟩ ⟨_, (if_pos rfl).trans (Mine.some_int (Mine.farI_neg hpar))⟩ rfl (fun z hz => by
        rw [if_neg (fun e => by rw [e] at hz; revert hz; decide +kernel), if_neg (fun e => by rw [e] at hz; revert hz; decide +kernel), if_neg (fun e => by rw [e] at hz; revert hz; decide +kernel), if_neg (fun e => by rw [e] at hz; revert hz; decide +kernel), if_neg (fun e => by rw [e] at hz; revert hz; decide +kernel), if_neg (by rw [hz]; decide)])
      exact key _ ⟨t4, t5, u, _, _, rfl, F3, fun p hp => N2 p (List.mem_cons_of_mem _ hp)⟩
  clear F2 N2; (try (rename Fr _ _ _ _ => Fz; clear Fz)); (try (rename News _ _ _ _ => Fz; clear Fz))
  rintro s' ⟨t4, t5, u4, h4, tk4, rfl, F, N⟩
  refine Mine.wpS_execs_cons ?_
  refine Mine.wpS_Assign_Name ?_
  refine Mine.wpS_List ?_
  refine Mine.wpS_spliced_cons ?_
  refine Mine.wpS_Call ?_
  iterate 1 (focus (first | (k_unfold; (try dsimp only)) | (k_end; wrow_close) | walk1 | (dsimp only; walk1) | (leave1; walk_say "STEP leave1"; try dsimp only)))
  refine Mine.wpS_callWith (P := fun h => Frag.In (Mine.hd.heap_39 w.params) h) (fun h X => looks_keep (by k_is) X) ?_
  iterate 5 (focus (first | (k_unfold; (try dsimp only)) | (k_end; wrow_close) | walk1 | (dsimp only; walk1) | (leave1; walk_say "STEP leave1"; try dsimp only)))
  refine ⟨by k_in, ?_⟩
  (try dsimp only)
  have lP := LD.lP
  have lO := LD.lO
  have hfm1 : (n : Int).fmod (2 + (i : Int)) = 0 := by assumption
  have hfm2 : (2 + (i : Int)).fmod (1 + (j : Int)) = 0 := by assumption
  obtain ⟨q1, hq1⟩ : ∃ q, n = q * (2 + i) := Mine.mul_of_fmod (by omega) hfm1
  obtain ⟨q2, hq2⟩ : ∃ q, 2 + i = q * (1 + j) := Mine.mul_of_fmod (by omega) hfm2
  have hq3 : n = (q1 * q2) * (1 + j) := by rw [hq1, hq2, Nat.mul_assoc]
  k_dflt (refine' Mine.turn_rule (wN := 1 + j) ?k1 ?k2 ?k3 ?k4 ?k5 ?kK ?h1 n12.2 lP ?hw hq3 ?hwn ?kd ?ku ?_; (case k1 => k_asm); (case k2 => k_asm); (case k3 => k_asm); (case k4 => k_asm); (case k5 => k_asm); (case kK => exact rfl); (case kd => ktr_room); (case ku => ktr_units); (case h1 => omega); (case hw => omega); (case hwn => omega))
  clear F N
  intro ta1 h5 tk5 F N
  (try dsimp only)
  refine Mine.wpS_spliced_cons ?_
  refine Mine.wpS_Call ?_
  iterate 1 (focus (first | (k_unfold; (try dsimp only)) | (k_end; wrow_close) | walk1 | (dsimp only; walk1) | (leave1; walk_say "STEP leave1"; try dsimp only)))
  refine Mine.wpS_callWith (P := fun h => Frag.In (Mine.hd.heap_39 w.params) h) (fun h X => looks_keep (by k_is) X) ?_
  iterate 5 (focus (first | (k_unfold; (try dsimp only)) | (k_end; wrow_close) | walk1 | (dsimp only; walk1) | (leave1; walk_say "STEP leave1"; try dsimp only)))
  refine ⟨by k_in, ?_⟩
  (try dsimp only)
  k_dflt (refine' Mine.turn_rule (wN := 2 + i) ?k1 ?k2 ?k3 ?k4 ?k5 ?kK ?h1 n12.2 lP ?hw hq1 ?hwn ?kd ?ku ?_; (case k1 => k_asm); (case k2 => k_asm); (case k3 => k_asm); (case k4 => k_asm); (case k5 => k_asm); (case kK => exact rfl); (case kd => ktr_room); (case ku => ktr_units); (case h1 => omega); (case hw => omega); (case hwn => omega))
  clear F N
  intro ta2 h5 tk5 F N
  (try dsimp only)
  refine Mine.wpS_spliced_cons ?_
  refine Mine.wpS_Call ?_
  iterate 1 (focus (first | (k_unfold; (try dsimp only)) | (k_end; wrow_close) | walk1 | (dsimp only; walk1) | (leave1; walk_say "STEP leave1"; try dsimp only)))
  refine Mine.wpS_callWith (P := fun h => Frag.In (Mine.hd.heap_39 w.params) h) (fun h X => looks_keep (by k_is) X) ?_
  iterate 5 (focus (first | (k_unfold; (try dsimp only)) | (k_end; wrow_close) | walk1 | (dsimp only; walk1) | (leave1; walk_say "STEP leave1"; try dsimp only)))
  refine ⟨by k_in, ?_⟩
  (try dsimp only)
  k_dflt (refine' Mine.turn_rule (wN := 2 + i) ?k1 ?k2 ?k3 ?k4 ?k5 ?kK ?h1 n12.2 lO ?hw hq1 ?hwn ?kd ?ku ?_; (case k1 => k_asm); (case k2 => k_asm); (case k3 => k_asm); (case k4 => k_asm); (case k5 => k_asm); (case kK => exact rfl); (case kd => ktr_room); (case ku => ktr_units); (case h1 => omega); (case hw => omega); (case hwn => omega))
  clear F N
  intro ta3 h5 tk5 F N
  (try dsimp only)
  refine Mine.wpS_spliced_nil ?_
  iterate 2 (focus (first | (k_unfold; (try dsimp only)) | (k_end; wrow_close) | walk1 | (dsimp only; walk1) | (leave1; walk_say "STEP leave1"; try dsimp only)))
  (try dsimp only)
  have em1 : n % (2 + i) = 0 := by rw [hq1]; exact Nat.mul_mod_left _ _
  have em2 : (2 + i) % (1 + j) = 0 := by rw [hq2]; exact Nat.mul_mod_left _ _
  have U1 := Mine.ends_unlike LD (D := P) (Or.inl rfl) (u := 1 + j) (v := 2 + i) (by omega) (by omega) hq3 hq1 (by omega) (by omega) (by omega)
  have U2 := Mine.ends_unlike LD (D := O) (Or.inr rfl) (u := 2 + i) (v := 1 + j) (by omega) (by omega) hq1 hq3 (by omega) (by omega) (by omega)
  have FA := Mine.fin_all (i := i) (j := j) LD.sz (by omega) (by omega) em1 em2
  have cN := Mine.costs_near LD (u := 1 + j) (v := 2 + i) (by omega) (by omega) hq3 hq1
  have cF := Mine.costs_far LD (u := 2 + i) (v := 1 + j) (by omega) (by omega) hq1 hq3
  have lx1 : (Mine.rowS P (1 + j)).length = n := (Mine.rowS_length _ _).trans lP
  have lx2 : (Mine.rowS P (2 + i)).length = n := (Mine.rowS_length _ _).trans lP
  have lx3 : (Mine.rowS O (2 + i)).length = n := (Mine.rowS_length _ _).trans lO
  refine Mine.wpS_execs_cons (Mine.wpS_of ?_)
  (try dsimp only)
  k_with "call ref" => (k_here; k_dflt (first
    | (refine' Mine.lev_near ?k1 ?k2 ?k3 ?k4 ?k5 ?kK n12 lx1 lx2 U1 cN FA.1 ?kd ?ku ?_; (case k1 => k_asm); (case k2 => k_asm); (case k3 => k_asm); (case k4 => k_asm); (case k5 => k_asm); (case kK => exact rfl); (case kd => ktr_room); (case ku => ktr_units))
    | (refine' Mine.lev_near ?k1 ?k2 ?k3 ?k4 ?k5 ?kK n12 lx3 lx1 U2 cF FA.2 ?kd ?ku ?_; (case k1 => k_asm); (case k2 => k_asm); (case k3 => k_asm); (case k4 => k_asm); (case k5 => k_asm); (case kK => exact rfl); (case kd => ktr_room); (case ku => ktr_units))); (intro t9 h9 tk9 F9 N9); (try dsimp only))
  iterate 43 (focus (first | (k_unfold; (try dsimp only)) | (k_end; wrow_close) | walk1 | (dsimp only; walk1) | (leave1; walk_say "STEP leave1"; try dsimp only)))
  refine Mine.wpS_execs_cons ?_
  refine Mine.wpS_If ?_
  iterate 8 (focus (first | (k_unfold; (try dsimp only)) | (k_end; wrow_close) | walk1 | (dsimp only; walk1) | (leave1; walk_say "STEP leave1"; try dsimp only)))
  · exact absurd (by assumption) (Mine.no_empty lx1 lx2 lx3 (by omega))
  iterate 25 (focus (first | (k_unfold; (try dsimp only)) | (k_end; wrow_close) | walk1 | (dsimp only; walk1) | (leave1; walk_say "STEP leave1"; try dsimp only)))
  (rename Fr _ _ _ _ => F8); (rename News _ _ _ _ => N8)
  rename (_ ≠ _ ∧ _ ≠ _ ∧ _ ≠ _) ∧ (_ ≠ _ ∧ _ ≠ _ ∧ _ ≠ _) ∧ (_ ≠ _ ∧ _ ≠ _ ∧ _ ≠ _) ∧ LCg.Off3 _ _ _ _ => O8
  refine ⟨_, _, _, rfl, F8, N8, O8, Mine.src_second, ?_⟩
  clear F8 N8 O8
  dsimp only
  iterate 9 (focus (first | (k_unfold; (try dsimp only)) | (k_end; wrow_close) | walk1 | (dsimp only; walk1) | (leave1; walk_say "STEP leave1"; try dsimp only)))
  (rename Fr _ _ _ _ => F8); (rename News _ _ _ _ => N8)
  rename (_ ≠ _ ∧ _ ≠ _ ∧ _ ≠ _) ∧ (_ ≠ _ ∧ _ ≠ _ ∧ _ ≠ _) ∧ (_ ≠ _ ∧ _ ≠ _ ∧ _ ≠ _) ∧ LCg.Off3 _ _ _ _ => O8
  refine ⟨_, _, _, rfl, F8, N8, O8, Mine.src_second, ?_⟩
  clear F8 N8 O8
  dsimp only
  iterate 9 (focus (first | (k_unfold; (try dsimp only)) | (k_end; wrow_close) | walk1 | (dsimp only; walk1) | (leave1; walk_say "STEP leave1"; try dsimp only)))
  (k_here; with_unfolding_all (refine' Mine.ne_self_list (xs := #[Value.type "int", Value.type "int"]) ?k1 ?k2 ?k3 ?_; (case k1 => is_list); (case k2 => is_list); (case k3 => units_room)))
  iterate 4 (focus (first | (k_unfold; (try dsimp only)) | (k_end; wrow_close) | walk1 | (dsimp only; walk1) | (leave1; walk_say "STEP leave1"; try dsimp only)))
  refine Mine.wpS_execs_nil ?_
  dsimp only
  refine Mine.wpS_execs_nil ?_
  dsimp only
  refine Mine.wpS_execs_nil ?_
  (rename Fr _ _ _ _ => F2); (rename News _ _ _ _ => N2)
  refine InvEnd.intro F2 N2 ?_ ?_
  · intro p hp
    repeat (first | exact hp | refine List.mem_cons_of_mem _ ?_)
  · intro z hz
    dsimp only
    rw [if_neg (fun e => by rw [e] at hz; revert hz; decide +kernel), if_neg (fun e => by rw [e] at hz; revert hz; decide +kernel), if_neg (fun e => by rw [e] at hz; revert hz; decide +kernel), if_neg (fun e => by rw [e] at hz; revert hz; decide +kernel), if_neg (fun e => by rw [e] at hz; revert hz; decide +kernel), if_neg (by rw [hz]; decide)])
