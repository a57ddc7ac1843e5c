import PyProof.Rows.All
import Wide.All
import OpenK.AllK
import Wide.FinOn
import PySem.Challenge.RW_wo0017_01
set_option Elab.async false
section
open PySem PySem.W PySem.Calls PyProof.Rows
set_option maxRecDepth 100000
namespace Mine
/-- a code that is no builtin, or one of the few that the call passes through -/
def okCode : Code → Bool
  | .builtin id _ => id == "claim.caller" || id == "type.__call__" || id == "bytearray.__init__"
  | _ => true
def OkCtx (Γ : Ctx) : Prop := okCode Γ.code = true ∧ ∀ q ∈ Γ.below, okCode q.1 = true

def wpF {α : Type} (M : Model) (A : Around) (t : Sem α) (Q : α → Shared → Prop) (E : Value → Shared → Prop) (s : Shared) : Prop :=
  ∀ Γ p, Γ.In A → OkCtx Γ → Sem.wp M Γ t (fun a _ s' => Q a s') (fun e _ s' => E e s') p s
def codeF (M : Model) (A : Around) (c : Code) (R : Result → Shared → Prop) (s : Shared) : Prop :=
  ∀ Γ p, Γ.code = c → Γ.Below A → (∀ q ∈ Γ.below, okCode q.1 = true) → wpCode M Γ R p s

section
variable {α β : Type} {M : Model} {A : Around} {E : Value → Shared → Prop} {s : Shared}
theorem wpF_of_any {t : Sem α} {Q : α → Shared → Prop} (h : wpAny M A t Q E s) : wpF M A t Q E s := fun Γ p hΓ _ => h Γ p hΓ
theorem codeF_of_any {c : Code} {R : Result → Shared → Prop} (h : codeAny M A c R s) : codeF M A c R s := fun Γ p hc hΓ _ => h Γ p hc hΓ
theorem wpF_mono {t : Sem α} {Q Q' : α → Shared → Prop} {E' : Value → Shared → Prop} (h : wpF M A t Q E s) (hQ : ∀ a s, Q a s → Q' a s) (hE : ∀ e s, E e s → E' e s) : wpF M A t Q' E' s :=
  fun Γ p hΓ o => Sem.wp_mono M Γ t (fun a _ s => hQ a s) (fun e _ s => hE e s) p s (h Γ p hΓ o)
theorem wpF_pure {a : α} {Q : α → Shared → Prop} (h : Q a s) : wpF M A (pure a) Q E s := fun _ _ _ _ => h
theorem wpF_bind {m : Sem α} {f : α → Sem β} {Q : β → Shared → Prop} (h : wpF M A m (fun a s' => wpF M A (f a) Q E s') E s) : wpF M A (m >>= f) Q E s := fun Γ p hΓ o => by
  rw [Sem.wp_bind']
  exact Sem.wp_mono M Γ m (fun a p' s' h' => h' Γ p' hΓ o) (fun _ _ _ h' => h') p s (h Γ p hΓ o)
/-- the first part in the kit's logic, what follows in ours -/
theorem wpF_bindA {m : Sem α} {f : α → Sem β} {Q : β → Shared → Prop} (h : wpAny M A m (fun a s' => wpF M A (f a) Q E s') E s) : wpF M A (m >>= f) Q E s := wpF_bind (wpF_of_any h)
theorem wpF_holding {vs : List Value} {m : Sem α} {Q : α → Shared → Prop} (h : wpF M A m Q E s) : wpF M A (holding vs m) Q E s :=
  fun Γ p hΓ o => by rw [Sem.wp_holding]; exact h Γ p hΓ o
theorem wpF_keep {vs : List Value} {m : Sem α} {Q : α → Shared → Prop} (h : wpF M A m Q E s) : wpF M A (m.keep vs) Q E s :=
  fun Γ p hΓ o => by rw [Sem.wp_keep]; exact h Γ p hΓ o
theorem wpF_onRaise {m : Sem α} {k : Value → Sem Unit} {Q : α → Shared → Prop} (h : wpF M A m Q (fun e s' => wpF M A (k e) (fun _ s'' => E e s'') E s') s) : wpF M A (m.onRaise k) Q E s := fun Γ p hΓ o => by
  rw [Sem.wp_onRaise]
  exact Sem.wp_mono M Γ m (fun _ _ _ h' => h') (fun e p' s' h' => h' Γ p' hΓ o) p s (h Γ p hΓ o)
theorem wpF_standAt {pos : Pos} {Q : Unit → Shared → Prop} (h : Q () s) : wpF M A (standAt pos) Q E s := fun _ _ _ _ => h
theorem wpF_point {Q : Unit → Shared → Prop} (h : Q () s) : wpF M A point Q E s := fun _ _ _ _ => h

theorem wpF_run {c : Code} {h : Option Value} {Q : Flow → Shared → Prop}
    (hc : codeF M (A.mark h) c (fun r s' => match r with | .ok f => Q f s' | .error e => E e s') s) (hnb : h ≠ some byPass := by intro x; cases x) : wpF M A (run c h) Q E s :=
  fun Γ p hΓ o => by
    rw [Sem.wp_run]
    refine hc _ p rfl (hΓ.enter c h p hnb) fun q hq => ?_
    rcases List.mem_cons.mp hq with rfl | hq
    · exact o.1
    · exact o.2 q hq
theorem wpF_runValue {c : Code} {Q : Value → Shared → Prop}
    (hc : codeF M A c (fun r s' => match r with | .ok (.ret v) => Q v s' | .ok _ => False | .error e => E e s') s) : wpF M A (runValue c) Q E s := fun Γ p hΓ o => by
  rw [Sem.wp_runValue]
  refine hc _ p rfl (hΓ.enter c none p (by intro x; cases x)) fun q hq => ?_
  rcases List.mem_cons.mp hq with rfl | hq
  · exact o.1
  · exact o.2 q hq
theorem wpF_call {f : Value} {pos : List Value} {kw : List (Str × Value)} {Q : Value → Shared → Prop}
    (hc : codeF M A (.call f ⟨pos, kw⟩) (fun r s' => match r with | .ok (.ret v) => Q v s' | .ok _ => False | .error e => E e s') s) : wpF M A (call f pos kw) Q E s := wpF_runValue hc
theorem codeF_mono {c : Code} {R R' : Result → Shared → Prop} (h : codeF M A c R s) (hR : ∀ r s, R r s → R' r s) : codeF M A c R' s :=
  fun Γ p hc hΓ o => wpCode_mono hR (h Γ p hc hΓ o)
theorem codeF_of_tree {c : Code} {R : Result → Shared → Prop} (ok : okCode c = true)
    (h : wpF M (A.under c) (M.den c) (fun fin s' => match fin with | .done f => R (.ok f) s' | .again c' => c'.quiet = true ∧ codeF M A c' R s') (fun e s' => R (.error e) s') s) : codeF M A c R s := fun Γ p hc hΓ o => by
  rw [wpCode_iff_wp, hc]
  refine Sem.wp_mono M Γ _ (fun fin p' s' h' => ?_) (fun _ _ _ h' => h') p s (h Γ p (hc ▸ hΓ.in) ⟨hc ▸ ok, o⟩)
  cases fin with
  | done f => exact h'
  | again c' => exact ⟨h'.1, h'.2 (Γ.goto c') p' rfl (hΓ.goto c') o⟩
end

/-! a call of a def -/
section
variable {prog : Program} {w : World} {A : Around} {s : Shared} {R : Result → Shared → Prop}
theorem codeF_func {body env} (h : wpF (model prog w) (A.deeper env) (execs body env) (fun f s' => R (.ok (.ret (match f with | .ret v => v | _ => .none))) s')
      (fun e s' => wpAny (model prog w) (A.deeper env) (leaving env e) (fun _ s'' => R (.error e) s'') (fun e' s'' => R (.error e') s'') s') s) : codeF (model prog w) A (.func body env) R s := by
  refine codeF_of_tree rfl ?_
  show wpF _ (A.deeper env) (do point; match ← (execs body env).onRaise (leaving env) with | .ret v => ret v | _ => ret .none) _ _ s
  refine wpF_bind (wpF_point (wpF_bind (wpF_onRaise (wpF_mono h (fun f s' h' => ?_) fun _ _ h' => wpF_of_any h'))))
  cases f <;> exact wpF_pure h'
theorem codeF_call_function {a : Addr} {args : Args} {o : Obj} {fd : FuncData} {body : List Stmt} (hroom : A.depth < recursionLimit) (ho : s.heap.get? a = some o)
    (hd' : o.data = .func fd) (hco : fd.scope.isCoroutine = false) (hgen : fd.scope.isGenerator = false) (hbody : fd.body = .stmts body) (hcd : s.heap.CodeRec fd.code fd.qualname)
    (h : wpAny (model prog w) A.in1 (bindArgs fd args) (fun binds s₁ => wpAny (model prog w) A.in1 (newFunctionEnv fd.scope fd.globals fd.closure binds (fd.qualname ++ ".<locals>.") (some a) fd.code none fd.builtins)
        (fun env s₂ => s₂.heap.NoLimit ∧ codeF (model prog w) A (.func body env) R s₂) (fun e s' => R (.error e) s') s₁) (fun e s' => R (.error e) s') s) :
    codeF (model prog w) A (.call (.ref a) args) R s := by
  refine codeF_of_tree rfl ?_
  show wpF _ A.in1 (callAny (.ref a) args) _ _ s
  simp only [callAny]
  refine wpF_bindA (wpAny_load ho ?_)
  obtain ⟨c, oc, vs, tq, hc, hoc, hdc, hq⟩ := hcd
  simp only [hd', callFunction, hco, hgen, hbody, hc]
  rw [hc] at h
  refine wpF_bindA (m := field (.ref c) 1) (wpAny_field hoc hdc hq (wpF_bindA (wpAny_pure ?_)))
  exact wpF_bindA (wpAny_mono h (fun binds s₁ h₁ => wpF_bindA (wpAny_mono h₁ (fun env s₂ h₂ => wpF_bindA (wpAny_enterFrame h₂.1 hroom (wpF_pure (And.intro rfl h₂.2)))) fun _ _ h' => h')) fun _ _ h' => h')
end
end Mine
end
section
open PySem PySem.W PySem.Calls PyProof.Rows
set_option maxRecDepth 100000
namespace Mine
section
variable {prog : Program} {w : World} {A A₀ : Around} {E : Value → Shared → Prop} {s : Shared} {K : Frag} {L : Addr} {h₀ base : Heap} {m mg mb : Str → Option Value} {news : List (Addr × Obj)} {p : Program} {loose : List Str} {mean : ExcName → Option Value}
theorem code_defF {env : Env} {outer : List Env} {R : Result → Shared → Prop} {name qual : Str} {params : Arguments} {body : List Stmt} {scope : Scope} {dV kV doc pm cdv ct oc : Value} {an od : Option Addr} {osl : Array (Option Value)} {f : Addr} {args : Args} {binds : List (Str × Value)}
    (B : Below A₀ base outer h₀) (F : Fr h₀ L s.heap m) (X₀ : K.In h₀) (N : News h₀ L s.heap news) (T : Top p loose mean mg mb h₀) (hA : A.frames = some (env :: outer)) (hf : env.frame = some L) (hke : env.scope.kind = .function)
    (ho : K.lookup f = some ⟨oc, od, .func (fnOf name qual params body scope dV kV doc pm an cdv ct), osl⟩) (hcd : codeIn K cdv qual = true) (hroom : A.depth < recursionLimit)
    (hbind : BindsTo s (fnOf name qual params body scope dV kV doc pm an cdv ct) args binds) (hloc : ∀ y ∈ binds, scope.names.lookup y.1 = some .local)
    (h : ∀ g L' h₁, Fr h₀ L g m → Fr g L' h₁ (fun y => binds.reverse.lookup y) → News g L' h₁ news → Below A base (env :: outer) g → K.In g → Top p loose mean mg mb g →
      wpF (model prog w) (A.deeper (envOf qual scope L' f cdv)) (execs body (envOf qual scope L' f cdv))
        (fun fl s' => LeaveK h₀ L m g R (match fl with | .ret v => v | _ => .none) s')
        (fun e s' => wpAny (model prog w) (A.deeper (envOf qual scope L' f cdv)) (leaving (envOf qual scope L' f cdv) e) (fun _ s'' => R (.error e) s'') (fun e' s'' => R (.error e') s'') s')
        { s with heap := h₁, toks := s.toks + binds.length })
    (hco : scope.isCoroutine = false) (hgen : scope.isGenerator = false) (hk : scope.kind = .function)
    (hcell : ∀ x ∈ scope.names, x.2 ≠ .cell) : codeF (model prog w) A (.call (.ref f) args) R s := by
  obtain ⟨FG, BG, st, lv⟩ := groundX (R := R) B F N hA hf hke
  refine codeF_call_function (fd := fnOf name qual params body scope dV kV doc pm an cdv ct) (body := body) hroom ((X₀.keeps F.keep) _ _ ho) rfl hco hgen rfl (codeRec_of (X₀.keeps F.keep) hcd) (hbind _ _ _ _ ?_)
  refine wpAny_newFunctionEnv hcell hloc (fun h₁ hns hsb => ⟨((T.nolimit).keeps F.keep).fresh _ hsb, codeF_func ?_⟩) hk
  have hk₁ : ∀ b o, s.heap.get? b = some o → h₁.get? b = some o := fun b o e => hsb.extBut b o (Nat.ne_of_lt (Heap.lt_size e)) (Heap.get?_push_of_some _ e)
  exact wpF_mono (h _ s.heap.objs.size h₁ FG ⟨hns, fun b o e => hk₁ b o (of_hideAll _ e), Nat.le_of_eq (hideAll_size _ _)⟩
    (fun p hp => ⟨hk₁ _ _ (N p hp).1, Nat.ne_of_lt (Heap.lt_size (N p hp).1), hideAll_none _ (List.mem_map_of_mem hp)⟩) BG (X₀.keeps st) (T.keeps st)) (fun fl s' hl => lv _ _ hl) fun _ _ y => y
end

/-! statements and expressions on the spine -/
section
variable {M : Model} {A : Around} {E : Value → Shared → Prop} {s : Shared} {env : Env} {K : Frag} {f : Value} {first : List Value} {pos : Pos}
theorem execsF_cons {st rest} {Q : Flow → Shared → Prop} (h : wpF M A (exec st env) (fun f s' => match f with | .next => wpF M A (execs rest env) Q E s' | f => Q f s') E s) :
    wpF M A (execs (st :: rest) env) Q E s := fun Γ p hΓ o => by
  rw [execs_cons, Sem.wp_bind']
  refine Sem.wp_mono M Γ _ (fun f p' s' h' => ?_) (fun _ _ _ h' => h') _ _ (h Γ p hΓ o)
  cases f <;> first | exact h' Γ p' hΓ o | exact h'
theorem execF_Assign {x pos' value pos} {Q : Flow → Shared → Prop} (h : wpF M A (eval value env) (fun v s₁ => wpF M A (storeName env x v) (fun _ => Q .next) E s₁) E s)
    (hs : swapsWith value (some (.Name x pos')) pos.line env = pure false := by rfl) : wpF M A (exec (.Assign [.Name x pos'] value pos) env) Q E s := fun Γ p hΓ o => by
  simp only [exec_Assign_Name env x pos' value pos hs, Sem.wp_bind', Sem.wp_cmd_standAt, Sem.wp_bindName, Sem.wp_pure']
  exact Sem.wp_mono M Γ _ (fun v _ s₁ h₁ => h₁ Γ _ hΓ o) (fun _ _ _ h' => h') _ _ (h Γ _ hΓ o)
theorem evalF_Call {id : Str} {p pos : Pos} {args : List Expr} {Q : Value → Shared → Prop}
    (h : wpAny M A (eval (.Name id p) env) (fun f s₁ => wpF M A (callWith pos f [] (backTo pos (starEach args env)) []) Q E s₁) E s) : wpF M A (eval (.Call (.Name id p) args [] pos) env) Q E s := by
  show wpF M A (do callWith pos (← eval (.Name id p) env) [] (backTo pos (starEach args env)) (backToKw pos (keywordEach [] env))) Q E s
  exact wpF_bindA h
theorem callWithF_of {P : Heap → Prop} {args : List (Bool × Sem Value)} {Q : Value → Shared → Prop} (hplain : args.any (·.1) = false)
    (hk : ∀ h, P h → ∃ k, (k = Keeper.frame ∨ k = Keeper.machine ∨ k = Keeper.boundFrame) ∧ Looks M h (keeperOf f) k)
    (h : wpAny M A (evalArgs f true args []) (fun a s₁ => P s₁.heap ∧ wpF M A (call f (first ++ a.pos) a.kw) Q E s₁) E s) : wpF M A (callWith pos f first args []) Q E s := by
  unfold callWith
  refine wpF_bind (wpF_holding (wpF_mono (wpF_of_any h) (fun a s₁ h₁ => wpF_bind (wpF_standAt ?_)) fun _ _ x => x))
  obtain ⟨k, hk', L⟩ := hk _ h₁.1
  simp only [hplain, List.any_nil, Bool.or_false]
  refine wpF_bindA (L.here ?_)
  have tail : ∀ {t : Sem Value}, wpF M A t Q E s₁ → wpF M A (t >>= fun r => holding [r] point >>= fun _ => pure r) Q E s₁ :=
    fun ht => wpF_bind (wpF_mono ht (fun r s₂ hr => wpF_bind (wpF_holding (wpF_point (wpF_pure hr)))) fun _ _ x => x)
  have marked (mk : Value) : wpF M A (callMarked mk f (first ++ a.pos) a.kw) Q E s₁ := by unfold callMarked; exact wpF_keep h₁.2
  rcases hk' with rfl | rfl | rfl <;> dsimp only <;> first | exact tail h₁.2 | (split <;> first | exact tail h₁.2 | exact tail (marked _))
theorem callWithF_K {h₀ : Heap} {e : Expr} {rest : List Expr} {Q : Value → Shared → Prop} (_X : K.In h₀) (hk : keepIn K f = true) (h : wpAny M A (spliced (backTo pos (starEach (e :: rest) env))) (fun vs s₁ => K.In s₁.heap ∧ wpF M A (call f (first ++ vs)) Q E s₁) E s)
    (he : starEach (e :: rest) env = (false, eval e env) :: starEach rest env := by rfl) (hplain : (backTo pos (starEach rest env)).any (·.1) = false := by rfl) :
    wpF M A (callWith pos f first (backTo pos (starEach (e :: rest) env)) []) Q E s := by
  rw [he] at h ⊢
  exact callWithF_of (by show (false || (backTo pos (starEach rest env)).any (·.1)) = false; rw [hplain]; rfl) (keeps_K hk) (evalArgs_plain h)
theorem callWithF_type {T : String} {e : Expr} {rest : List Expr} {Q : Value → Shared → Prop} (h : wpAny M A (spliced (backTo pos (starEach (e :: rest) env))) (fun vs s₁ => wpF M A (call (.type T) vs) Q E s₁) E s)
    (he : starEach (e :: rest) env = (false, eval e env) :: starEach rest env := by rfl) (hplain : (backTo pos (starEach rest env)).any (·.1) = false := by rfl) :
    wpF M A (callWith pos (.type T) [] (backTo pos (starEach (e :: rest) env)) []) Q E s := by
  rw [he] at h ⊢
  exact callWithF_of (P := fun _ => True) (by show (false || (backTo pos (starEach rest env)).any (·.1)) = false; rw [hplain]; rfl)
    (fun h _ => ⟨.machine, .inr (.inl rfl), Looks.of_pure rfl⟩) (evalArgs_plain (wpAny_mono h (fun vs s₁ x => ⟨trivial, x⟩) fun _ _ x => x))
end
end Mine
end
section
open PySem PySem.W PySem.Calls PyProof.Rows
set_option maxRecDepth 100000
namespace Mine
theorem okCode_cases {id : String} {args : Args} (h : okCode (.builtin id args) = true) : id = "claim.caller" ∨ id = "type.__call__" ∨ id = "bytearray.__init__" := by
  simp only [okCode, Bool.or_eq_true, beq_iff_eq] at h
  rcases h with (h | h) | h
  · exact .inl h
  · exact .inr (.inl h)
  · exact .inr (.inr h)
section
variable {M : Model} {A : Around} {E : Value → Shared → Prop} {s : Shared}
theorem wpF_exported {self : Value} {Q : Bool → Shared → Prop} (h : Q false s) : wpF M A (Builtin.Bytes.exported self) Q E s := fun Γ p hΓ o => by
  unfold Builtin.Bytes.exported
  show Q (List.any ((Γ.code, p) :: Γ.below) _) s
  have key : ∀ q ∈ (Γ.code, p) :: Γ.below, okCode q.1 = true := fun q hq => by
    rcases List.mem_cons.mp hq with rfl | hq
    · exact o.1
    · exact o.2 q hq
  rw [List.any_eq_false.mpr]
  · exact h
  · rintro ⟨c, q⟩ hc
    have hk := key _ hc
    cases c with
    | builtin id args =>
      obtain ⟨pos, kw⟩ := args
      rcases okCode_cases hk with rfl | rfl | rfl <;> (cases pos <;> simp [Builtin.Bytes.decodersThatHold])
    | _ => simp
end

namespace FA
theorem look_release : typeLookup (.type "bytearray") "__release_buffer__" = pure (some (.builtin "bytearray.__release_buffer__")) := by rw [typeLookup_type, builtinLookup_eq_fast]; kernel_rfl
theorem look_buffer : typeLookup (.type "bytearray") "__buffer__" = pure (some (.builtin "bytearray.__buffer__")) := by rw [typeLookup_type, builtinLookup_eq_fast]; kernel_rfl
theorem look_new : typeLookup (.type "bytearray") "__new__" = pure (some (.builtin "bytearray.__new__")) := by rw [typeLookup_type, builtinLookup_eq_fast]; kernel_rfl
theorem look_no_bytes : typeLookup (.type "bytearray") "__bytes__" = pure none := by rw [typeLookup_type, builtinLookup_eq_fast]; kernel_rfl
theorem look_no_index : typeLookup (.type "bytearray") "__index__" = pure none := by rw [typeLookup_type, builtinLookup_eq_fast]; kernel_rfl
theorem mro : mroOf (.type "bytearray") = pure [.type "bytearray", .type "object"] := by rw [mroOf_type]; kernel_rfl
theorem slot_init : Slot "bytearray" "__init__" "bytearray.__init__" :=
  .of (owner := "bytearray") (n := "__init__") (by rw [typeLookup_type, builtinLookup_eq_fast]; kernel_rfl) (by decide +kernel) (by decide +kernel) (by decide +kernel)
    (by first | exact .inl (by decide +kernel) | exact .inr (by decide +kernel)) (by rw [isSubtype_type]; kernel_rfl)
theorem slot_setitem : Slot "bytearray" "__setitem__" "bytearray.__setitem__" :=
  .of (owner := "bytearray") (n := "__setitem__") (by rw [typeLookup_type, builtinLookup_eq_fast]; kernel_rfl) (by decide +kernel) (by decide +kernel) (by decide +kernel)
    (by first | exact .inl (by decide +kernel) | exact .inr (by decide +kernel)) (by rw [isSubtype_type]; kernel_rfl)
theorem called : TypeCalled "bytearray" "bytearray.__new__" "bytearray.__init__" :=
  ⟨by decide +kernel, by decide +kernel, ⟨_, _, mro⟩, madeBy_type mro look_new (by decide +kernel), by decide +kernel, by rw [isSubtype_type]; kernel_rfl, slot_init⟩
theorem typeCall (a : Value) : checkTypeCall "bytearray" ⟨[a], []⟩ = pure () := by kernel_rfl
theorem newCall (a : Value) : checkBuiltinCall "bytearray.__new__" ⟨[.type "bytearray", a], []⟩ = pure () := by kernel_rfl
theorem plain_new : plainId "bytearray.__new__" = true := by decide +kernel
theorem entry_new : entryFor table "bytearray.__new__" = some Builtin.«list.__new__» :=
  entryFor_alias (id' := "list.__new__") (by rw [fastTable_eq_tree]; kernel_rfl) (by decide +kernel) (by decide +kernel) (by rw [fastTable_eq_tree]; kernel_rfl)
theorem entry_init : entryFor table "bytearray.__init__" = some Builtin.«bytearray.__init__» := by first | exact entryFor_of_tree (by kernel_rfl) | exact entryFor_of_fast (by kernel_rfl)
theorem entry_setitem : entryFor table "bytearray.__setitem__" = some Builtin.«bytearray.__setitem__» := by first | exact entryFor_of_tree (by kernel_rfl) | exact entryFor_of_fast (by kernel_rfl)
theorem args_init (a b : Value) : argsOk "bytearray.__init__" ⟨[a, b], []⟩ := by unfold argsOk; kernel_rfl
theorem args_setitem (a b c : Value) : argsOk "bytearray.__setitem__" ⟨[a, b, c], []⟩ := by unfold argsOk; kernel_rfl
theorem bind_init (v : Value) : Builtin.Bytes.bindOptional "bytearray.__init__" "bytearray" ["source", "encoding", "errors"] [v] [] = pure [some v, none, none] := by kernel_rfl
end FA
set_option maxRecDepth 1000000 in
set_option maxHeartbeats 4000000 in
theorem owner_new : ("bytearray.__new__".splitOn ".__new__").headD "" = "bytearray" := by simp +decide [String.splitOn, String.splitOnAux]
end Mine
end
section
open PySem PySem.W PySem.Calls PyProof.Rows
set_option maxRecDepth 100000
namespace Mine
def baObj (b : Array UInt8) : Obj := { cls := .type "bytearray", data := .bytearray b }
section
variable {prog : Program} {w : World} {M : Model} {A : Around} {E : Value → Shared → Prop} {s : Shared}
theorem ba_update {h : Heap} {a : Addr} {b : Array UInt8} {f : Array UInt8 → Array UInt8} (hS : h.get? a = some (baObj b)) : (h.update a (Obj.mapBytearray f)).get? a = some (baObj (f b)) :=
  Heap.get?_update_self (Obj.mapBytearray f) hS rfl
theorem wpAny_write {a : Addr} {b : Array UInt8} {f : Array UInt8 → Array UInt8} {Q : Unit → Shared → Prop} (hS : s.heap.get? a = some (baObj b)) (hz : (f b).size ≤ sizeLine)
    (h : Q () { s with heap := s.heap.update a (Obj.mapBytearray f) }) : wpAny M A (Builtin.Bytes.write (.ref a) f) Q E s := by
  show wpAny _ _ (updateBytearray a f) _ _ _
  unfold updateBytearray
  refine wpAny_bind (wpAny_load hS ?_)
  show wpAny _ _ (update a (Obj.mapBytearray f) >>= fun _ => lookBehind a) _ _ _
  refine wpAny_bind (wpAny_update hS ?_)
  refine wpAny_lookBehind (ba_update hS) ?_ h
  show (if (f b).size > sizeLine then some "bytearray:memory" else none) = none
  rw [if_neg]; omega
theorem wpAny_payload {a : Addr} {b : Array UInt8} {Q : Array UInt8 → Shared → Prop} (hS : s.heap.get? a = some (baObj b)) (h : Q b s) : wpAny M A (Builtin.Bytes.payload (.ref a)) Q E s := by
  unfold Builtin.Bytes.payload Builtin.Bytes.payload?
  refine wpAny_bind (wpAny_bind (wpAny_load hS ?_))
  exact wpAny_pure (wpAny_pure h)
theorem ba_typeIs {a : Addr} {b : Array UInt8} (hS : s.heap.get? a = some (baObj b)) : s.TypeIs (.ref a) "bytearray" := ⟨_, hS, rfl⟩
theorem wpAny_ownRelease {a : Addr} {b : Array UInt8} {Q : Bool → Shared → Prop} (hS : s.heap.get? a = some (baObj b)) (h : Q false s) : wpAny M A (Builtin.Bytes.ownRelease (.ref a)) Q E s := by
  unfold Builtin.Bytes.ownRelease Builtin.Bytes.slotIsOwn
  refine wpAny_bind (wpAny_bind (wpAny_specialOf (ba_typeIs hS) FA.look_release ?_))
  have e1 : ("bytearray.__release_buffer__".endsWith ("." ++ "__release_buffer__")) = true := by decide +kernel
  have e2 : "bytearray.__release_buffer__".dropRight ("__release_buffer__".length + 1) = "bytearray" := by decide +kernel
  dsimp only
  rw [e1, e2]
  exact wpAny_isInstance (ba_typeIs hS) F.sub_bytearray_bytearray (wpAny_pure h)
theorem code_ba_new (a : Value) {Q₁ : Value → Shared → Prop} (h : Q₁ (.ref s.heap.objs.size) { s with heap := s.heap.push (baObj #[]) }) :
    codeAny (model prog w) A (.call (.builtin "bytearray.__new__") ⟨[.type "bytearray", a], []⟩) (wants Q₁ E) s := by
  refine codeAny_of_tree ?_
  show wpAny _ A.in1 (do checkBuiltinCall "bytearray.__new__" ⟨[.type "bytearray", a], []⟩; again (.builtin "bytearray.__new__" ⟨[.type "bytearray", a], []⟩)) _ _ s
  refine wpAny_bind (wpAny_of_eq (FA.newCall a) (wpAny_pure ⟨plainId_quiet FA.plain_new _, codeAny_builtin_stack FA.entry_new rfl fun p st => ?_⟩))
  rw [Around.under_plainId FA.plain_new _]
  have hsub := F.sub_bytearray_bytearray
  have hown := owner_new
  obtain ⟨hp, g, d, tk, os⟩ := s
  simp only [hown]
  wp_walk
  exact h
end
end Mine
end
section
open PySem PySem.W PySem.Calls PyProof.Rows
set_option maxRecDepth 100000
namespace Mine
section
variable {prog : Program} {w : World} {M : Model} {A : Around} {E : Value → Shared → Prop} {s : Shared}
theorem wpF_if_false {α : Type} {c : Bool} {a b : Sem α} {Q : α → Shared → Prop} (hc : c = false) (h : wpF M A b Q E s) : wpF M A (if c = true then a else b) Q E s := by
  subst hc; exact h
theorem wpF_if_true {α : Type} {c : Bool} {a b : Sem α} {Q : α → Shared → Prop} (hc : c = true) (h : wpF M A a Q E s) : wpF M A (if c = true then a else b) Q E s := by
  subst hc; exact h
theorem wpF_ite_false {α : Type} {c : Prop} [Decidable c] {a b : Sem α} {Q : α → Shared → Prop} (hc : ¬ c) (h : wpF M A b Q E s) : wpF M A (if c then a else b) Q E s := by
  rw [if_neg hc]; exact h
theorem stepF {α β : Type} {m : Sem α} {f : α → Sem β} {Q : β → Shared → Prop} {a : α} (hm : ∀ (Q : α → Shared → Prop), Q a s → wpAny M A m Q E s) (h : wpF M A (f a) Q E s) : wpF M A (m >>= f) Q E s :=
  wpF_bindA (hm _ h)
theorem wpF_bind_eq {α β : Type} {m : Sem α} {a : α} {f : α → Sem β} {Q : β → Shared → Prop} (e : m = pure a) (h : wpF M A (f a) Q E s) : wpF M A (m >>= f) Q E s := by
  subst e; exact h
theorem codeF_builtin {id : String} {args : Args} {b : Builtin} {R : Result → Shared → Prop} (ok : okCode (.builtin id args) = true) (hb : entryFor table id = some b)
    (h : wpF (model prog w) (A.under (.builtin id args)) (b args)
      (fun fin s' => match fin with | .done f => R (.ok f) s' | .again c' => c'.quiet = true ∧ codeF (model prog w) A c' R s') (fun e s' => R (.error e) s') s) :
    codeF (model prog w) A (.builtin id args) R s := by
  refine codeF_of_tree ok ?_
  show wpF _ _ (match entryFor table id with | some b => b args | none => unsupported ((withoutEnding? id "#data").getD id)) _ _ s
  rw [hb]; exact h
theorem fits_ok {n : Nat} (h : n ≤ 16777216) : (!Builtin.Bytes.fitsIndex (n : Int)) = false := by
  have e : Builtin.Bytes.fitsIndex (n : Int) = true := by
    unfold Builtin.Bytes.fitsIndex
    rw [Bool.and_eq_true, decide_eq_true_eq, decide_eq_true_eq]
    constructor <;> omega
  rw [e]; rfl
theorem long_ok {n : Nat} (h : n ≤ 16777216) : Builtin.Bytes.tooLong (n : Int).toNat = false := by
  unfold Builtin.Bytes.tooLong
  rw [sizeLine_eq, decide_eq_false_iff_not]; omega
theorem init_ba {a : Addr} {n : Nat} {t : Tok} {Q : Fin → Shared → Prop} (hS : s.heap.get? a = some (baObj #[])) (hn : n ≤ sizeLine)
    (hQ : ∀ h', (∀ b o, b ≠ a → s.heap.get? b = some o → h'.get? b = some o) → h'.get? a = some (baObj (Array.replicate n 0)) → h'.objs.size = s.heap.objs.size → Q (.done (.ret .none)) { s with heap := h' }) :
    wpF M A (Builtin.«bytearray.__init__» ⟨[.ref a, .int n t], []⟩) Q E s := by
  have hn' : n ≤ 16777216 := by rw [sizeLine_eq] at hn; exact hn
  have hk : ∀ (h : Heap) (f : Array UInt8 → Array UInt8) (b : Addr) (o : Obj), b ≠ a → h.get? b = some o → (h.update a (Obj.mapBytearray f)).get? b = some o :=
    fun h f b o hb e => (Heap.get?_update_other _ _ (Ne.symm hb)).trans e
  unfold Builtin.«bytearray.__init__»
  refine wpF_bindA (wpAny_ownRelease hS ?_)
  refine wpF_if_false rfl ?_
  refine wpF_bindA (wpAny_of_eq (FA.bind_init _) ?_)
  refine wpF_bindA (wpAny_of_eq (a := ()) rfl ?_)
  refine wpF_bindA (wpAny_of_eq (a := ()) rfl ?_)
  refine wpF_bind ?_
  refine wpF_bind (wpF_exported ?_)
  show wpF _ _ (Builtin.Bytes.exportsOf (.ref a) >>= _) _ _ _
  refine wpF_bindA ?_
  unfold Builtin.Bytes.exportsOf
  refine wpAny_bind (wpAny_load hS ?_)
  refine wpAny_pure ?_
  refine wpF_pure ?_
  refine wpF_if_false rfl ?_
  refine wpF_bindA (wpAny_write hS (by show (0 : Nat) ≤ _; exact Nat.zero_le _) ?_)
  have hS₁ := ba_update (f := fun _ => #[]) hS
  show wpF _ _ (asStr? (Value.int (n : Int) t) >>= _) _ _ _
  have h9 : ∀ (Q : Option PySem.Str → Shared → Prop) (s : Shared), Q none s → wpAny M A (asStr? (Value.int (n : Int) t)) Q E s := fun Q s h => wpAny_of_eq rfl h
  refine wpF_bindA ?_
  refine h9 _ _ ?_
  simp only [Option.isSome_none, Bool.false_eq_true, if_false, pure_bind]
  have h8 : ∀ (Q : Option Value → Shared → Prop) (s : Shared), Q (some (.builtin "int.__index__")) s → wpAny M A (specialOf (Value.int (n : Int) t) "__index__") Q E s := fun Q s h => wpAny_specialOf (T := "int") rfl PySem.int_index h
  refine wpF_bindA ?_
  refine h8 _ _ ?_
  simp only [Option.isSome_some, if_true]
  have h7 : ∀ (Q : Except Value Int → Shared → Prop) (s : Shared), Q (.ok (n : Int)) s → wpAny M A (asIndex (Value.int (n : Int) t)).attempt Q E s := fun Q s h => wpAny_attempt (wpAny_of_eq rfl h)
  refine wpF_bindA ?_
  refine h7 _ _ ?_
  dsimp only
  rw [fits_ok hn', if_neg Bool.false_ne_true, if_neg (Int.not_lt.mpr (Int.natCast_nonneg n))]
  have e2 : ((n : Int) == 2 ^ 63 - 1) = false := beq_eq_false_iff_ne.mpr fun e => by rw [show ((2 : Int) ^ 63 - 1) = 9223372036854775807 from rfl] at e; omega
  rw [e2, if_neg Bool.false_ne_true, long_ok hn', if_neg Bool.false_ne_true]
  refine wpF_bindA (wpAny_rule ?_)
  by_cases h0 : n = 0
  · subst h0
    refine wpF_ite_false (by decide) ?_
    refine wpF_pure (hQ _ (hk _ _) ?_ ?_)
    · exact hS₁
    · exact Heap.size_update ..
  · rw [if_pos (by omega)]
    refine wpF_bindA (wpAny_write hS₁ (by simp [sizeLine_eq]; exact hn') ?_)
    refine wpF_pure (hQ _ (fun b o hb e => hk _ _ _ _ hb (hk _ _ _ _ hb e)) ?_ ?_)
    · have := ba_update (f := fun _ => Array.replicate (n : Int).toNat 0) hS₁
      rw [Int.toNat_natCast] at this
      simpa using this
    · exact (Heap.size_update ..).trans (Heap.size_update ..)
end
end Mine
end
section
open PySem PySem.W PySem.Calls PyProof.Rows
set_option maxRecDepth 100000
namespace Mine
section
variable {prog : Program} {w : World} {A : Around} {E : Value → Shared → Prop} {s : Shared}
theorem call_bytearray {n : Nat} {t : Tok} {Q : Value → Shared → Prop} (hn : n ≤ sizeLine)
    (hQ : ∀ h', (∀ b o, s.heap.get? b = some o → h'.get? b = some o) → h'.get? s.heap.objs.size = some (baObj (Array.replicate n 0)) → h'.objs.size = s.heap.objs.size + 1 → Q (.ref s.heap.objs.size) { s with heap := h' }) :
    wpF (model prog w) A (call (.type "bytearray") [.int n t]) Q E s := by
  have ft := FA.called
  refine wpF_call (codeF_of_tree rfl ?_)
  show wpF _ _ (callAny (.type "bytearray") _) _ _ _
  refine wpF_pure ⟨Code.quiet_builtin _ (by decide +kernel), codeF_builtin rfl F.entry_type_call ?_⟩
  rw [Around.under_plain (weight_type_call_type "bytearray" _ []) (units_type_call_type "bytearray" _ [])]
  have h1 := ft.notType
  have h2 := ft.canCreate
  unfold Builtin.«type.__call__»
  dsimp only
  rw [h1, if_neg Bool.false_ne_true, h2, if_neg Bool.false_ne_true]
  rw [FA.typeCall, FA.mro, ft.made]
  simp only [pure_bind, List.isEmpty_cons, Bool.false_eq_true, if_false]
  refine wpF_bind (wpF_holding (wpF_of_any (wpAny_call ?_)))
  have hnew : s.heap.get? s.heap.objs.size = none := by
    cases e : s.heap.get? s.heap.objs.size with
    | none => rfl
    | some o => exact absurd (Heap.lt_size e) (Nat.lt_irrefl _)
  refine codeAny_mono (code_ba_new (E := fun _ _ => False) (Q₁ := fun v s' => v = .ref s.heap.objs.size ∧ s' = { s with heap := s.heap.push (baObj #[]) }) _ ⟨rfl, rfl⟩) fun r s₁ hr => ?_
  cases r with
  | error e => exact hr.elim
  | ok fl =>
    cases fl with
    | ret obj =>
      obtain ⟨rfl, rfl⟩ := hr
      have hS : (s.heap.push (baObj #[])).get? s.heap.objs.size = some (baObj #[]) := Heap.get?_push_size _ rfl
      dsimp only
      refine wpF_bindA (wpAny_isInstance (s := { s with heap := s.heap.push (baObj #[]) }) (ba_typeIs hS) F.sub_bytearray_bytearray ?_)
      refine wpF_if_false rfl ?_
      refine wpF_bind (wpF_holding ?_)
      simp only [callSpecial?]
      refine wpF_bindA (wpAny_specialOf (s := { s with heap := s.heap.push (baObj #[]) }) (ba_typeIs hS) FA.slot_init.lookup ?_)
      simp only [FA.slot_init.bind]
      refine wpF_holding ?_
      simp only [pure_bind]
      refine wpF_bind (wpF_call (codeF_of_tree rfl ?_))
      show wpF _ A.in1.in1 (do checkBuiltinCall "bytearray.__init__" _; again (.builtin "bytearray.__init__" _)) _ _ _
      refine wpF_bindA (FA.slot_init.check _ _ _ _ _ _ _ _ (ba_typeIs hS) (FA.args_init _ _) ?_)
      refine wpF_pure ⟨plainId_quiet FA.slot_init.plain _, codeF_builtin rfl FA.entry_init ?_⟩
      rw [Around.under_plainId FA.slot_init.plain _]
      refine init_ba hS hn fun h' hk hb hz => ?_
      refine wpF_pure ?_
      refine wpF_pure ?_
      refine hQ h' (fun b o e => hk b o (Nat.ne_of_lt (Heap.lt_size e)) (Heap.get?_push_of_some _ e)) hb ?_
      rw [hz, Heap.size_push]
    | _ => exact hr.elim
end
end Mine
end
section
open PySem PySem.W PySem.Calls PyProof.Rows
set_option maxRecDepth 100000
namespace Mine
section
variable {prog : Program} {w : World} {A : Around} {E : Value → Shared → Prop} {s : Shared}
theorem fits_idx {k : Int} (h0 : 0 ≤ k) (h : k < 2 ^ 63) : (!Builtin.Bytes.fitsIndex k) = false := by
  have e : Builtin.Bytes.fitsIndex k = true := by
    unfold Builtin.Bytes.fitsIndex
    rw [Bool.and_eq_true, decide_eq_true_eq, decide_eq_true_eq]
    constructor
    · exact Int.le_trans (by decide) h0
    · exact h
  rw [e]; rfl
theorem wpAny_subscript {M : Model} {k : Int} {t : Tok} {Q : Option Int → Shared → Prop} (h0 : 0 ≤ k) (h1 : k < 2 ^ 63) (h : Q (some k) s) : wpAny M A (Builtin.Bytes.subscript? (.int k t)) Q E s := by
  unfold Builtin.Bytes.subscript?
  refine wpAny_bind (wpAny_specialOf (T := "int") rfl PySem.int_index ?_)
  show wpAny _ _ (asIndex (.int k t) >>= _) _ _ _
  refine wpAny_bind (wpAny_of_eq (rfl : asIndex (.int k t) = pure k) ?_)
  rw [fits_idx h0 h1]
  exact wpAny_pure h
theorem wpAny_byteValue {M : Model} {v : Int} {u : Tok} {Q : UInt8 → Shared → Prop} (h0 : 0 ≤ v) (h1 : v < 256) (h : Q v.toNat.toUInt8 s) : wpAny M A (Builtin.Bytes.byteValue (.int v u)) Q E s := by
  unfold Builtin.Bytes.byteValue
  refine wpAny_bind (wpAny_of_eq (rfl : asIndex (.int v u) = pure v) ?_)
  have e : (decide (v < 0) || decide (v ≥ 256)) = false := by
    rw [Bool.or_eq_false_iff, decide_eq_false_iff_not, decide_eq_false_iff_not]; constructor <;> omega
  rw [e]
  exact wpAny_pure h
theorem setItem_bytearray {a : Addr} {b : Array UInt8} {k : Int} {t : Tok} {v : Int} {u : Tok} {Q : Unit → Shared → Prop} (hS : s.heap.get? a = some (baObj b)) (hz : b.size ≤ sizeLine)
    (h0 : 0 ≤ k) (hfit : k < 2 ^ 63) (hn : k < b.size) (hv0 : 0 ≤ v) (hv1 : v < 256)
    (hQ : Q () { s with heap := s.heap.update a (Obj.mapBytearray (·.setIfInBounds k.toNat v.toNat.toUInt8)) }) :
    wpAny (model prog w) A (setItem (.ref a) (.int k t) (.int v u)) Q E s := by
  unfold setItem
  try with_reducible refine wpAny_holding ?_
  first | refine wpAny_bind (wpAny_pure ?_) | skip
  refine wpAny_bind (wpAny_sequenceKey (ba_typeIs hS) (by decide) ?_)
  refine wpAny_bind (wpAny_callSpecial?_slot (name := Str.ofString "__setitem__") (ba_typeIs hS) FA.slot_setitem
    (wpAny_call_entry FA.slot_setitem (ba_typeIs hS) FA.entry_setitem ?_ (FA.args_setitem _ _ _)))
  unfold Builtin.«bytearray.__setitem__»
  show wpAny _ _ (Builtin.Bytes.subscript? (.int k t) >>= _) _ _ s
  refine wpAny_bind (wpAny_subscript h0 hfit ?_)
  show wpAny _ _ (Builtin.Bytes.byteValue (.int v u) >>= _) _ _ s
  refine wpAny_bind (wpAny_byteValue hv0 hv1 ?_)
  refine wpAny_bind (wpAny_payload hS ?_)
  have e : seqIndex? k b.size = some k.toNat := by
    unfold seqIndex?
    rw [if_neg (Int.not_lt.mpr h0)]
    dsimp only
    rw [decide_eq_true h0, decide_eq_true hn]
    rfl
  rw [e]
  refine wpAny_bind (wpAny_write hS (by rw [Array.size_setIfInBounds]; exact hz) ?_)
  exact wpAny_pure ⟨.none, rfl, wpAny_pure hQ⟩
end
end Mine
end
section
open PySem PySem.W PySem.Calls PyProof.Rows
set_option maxRecDepth 100000
namespace Mine
theorem FA.look_buffer_own : ("bytearray.__buffer__".endsWith ("." ++ "__buffer__")) = true := by decide +kernel
section
variable {prog : Program} {w : World} {M : Model} {A : Around} {E : Value → Shared → Prop} {s : Shared}
theorem wpAny_slotIsOwn_buffer {a : Addr} {b : Array UInt8} {Q : Bool → Shared → Prop} (hS : s.heap.get? a = some (baObj b)) (h : Q true s) : wpAny M A (Builtin.Bytes.slotIsOwn (.ref a) "__buffer__") Q E s := by
  unfold Builtin.Bytes.slotIsOwn
  refine wpAny_bind (wpAny_specialOf (ba_typeIs hS) FA.look_buffer ?_)
  have e2 : "bytearray.__buffer__".dropRight ("__buffer__".length + 1) = "bytearray" := by decide +kernel
  dsimp only
  rw [FA.look_buffer_own, e2]
  exact wpAny_isInstance (ba_typeIs hS) F.sub_bytearray_bytearray h
theorem wpAny_buffer {a : Addr} {b : Array UInt8} {id : String} {full : Bool} {Q : Option (Array UInt8) → Shared → Prop} (hS : s.heap.get? a = some (baObj b)) (h : Q (some b) s) : wpAny M A (Builtin.Bytes.buffer? id (.ref a) full) Q E s := by
  unfold Builtin.Bytes.buffer?
  refine wpAny_bind (wpAny_specialOf (ba_typeIs hS) FA.look_buffer ?_)
  dsimp only
  refine wpAny_bind (wpAny_slotIsOwn_buffer hS ?_)
  refine bm_if_false rfl ?_
  refine wpAny_bind (wpAny_specialOf (ba_typeIs hS) FA.look_buffer ?_)
  refine wpAny_bind (wpAny_ownRelease hS ?_)
  refine bm_if_false rfl ?_
  exact wpAny_bind (wpAny_payload hS (wpAny_pure h))
theorem bytes_ba_new {a : Addr} {b : Array UInt8} {Q : Value → Shared → Prop} (hS : s.heap.get? a = some (baObj b)) (hz : b.size ≤ sizeLine)
    (hQ : ∀ t k, Q (.bytes b t) { s with toks := k }) :
    codeAny (model prog w) A (.call (.builtin "bytes.__new__") ⟨[.type "bytes", .ref a], []⟩) (wants Q E) s := by
  refine codeAny_of_tree ?_
  show wpAny _ A.in1 (do checkBuiltinCall "bytes.__new__" ⟨[.type "bytes", .ref a], []⟩; again (.builtin "bytes.__new__" ⟨[.type "bytes", .ref a], []⟩)) _ _ s
  refine wpAny_bind (wpAny_of_eq (F.bm_newCall _) (wpAny_pure ⟨plainId_quiet F.bm_plain _, codeAny_builtin F.bm_entry ?_⟩))
  rw [Around.under_plainId F.bm_plain _]
  have hT := ba_typeIs hS
  unfold Builtin.«bytes.__new__»
  refine wpAny_bind (wpAny_of_eq (a := true) rfl ?_)
  refine bm_if_false rfl ?_
  refine wpAny_bind (wpAny_of_eq F.bm_sub ?_)
  refine bm_if_false rfl ?_
  refine wpAny_bind (wpAny_of_eq (F.bm_bind _) ?_)
  refine wpAny_bind (wpAny_of_eq (a := ()) rfl ?_)
  refine wpAny_bind (wpAny_of_eq (a := ()) rfl ?_)
  refine bm_if_false rfl ?_
  refine wpAny_bind (wpAny_specialOf hT FA.look_no_bytes ?_)
  refine wpAny_bind (wpAny_bind ?_)
  show wpAny _ _ (load a >>= _) _ _ _
  refine wpAny_bind (wpAny_load hS ?_)
  refine wpAny_pure (wpAny_pure ?_)
  refine bm_if_false rfl ?_
  refine wpAny_bind (wpAny_specialOf hT FA.look_no_index ?_)
  refine bm_if_true rfl ?_
  first
    | show wpAny _ _ (Builtin.Bytes.buffer? "bytes.__new__" (.ref a) true >>= _) _ _ _
    | (refine wpAny_bind ?_; show wpAny _ _ (Builtin.Bytes.buffer? "bytes.__new__" (.ref a) true >>= _) _ _ _)
  refine wpAny_bind (wpAny_buffer hS ?_)
  refine wpAny_bind (wpAny_rule ?_)
  refine wpAny_bind (wpAny_mkBytes ?_ hz)
  show wpAny _ _ (if (Value.type "bytes" == Value.type "bytes") = true then _ else _) _ _ _
  refine bm_if_true (by decide) ?_
  first
    | exact wpAny_pure (hQ _ _)
    | exact wpAny_bind (wpAny_pure (wpAny_pure (hQ _ _)))
theorem call_bytes_ba {a : Addr} {b : Array UInt8} {Q : Value → Shared → Prop} (hS : s.heap.get? a = some (baObj b)) (hz : b.size ≤ sizeLine) (hQ : ∀ t k, Q (.bytes b t) { s with toks := k }) :
    wpAny (model prog w) A (call (.type "bytes") [.ref a]) Q E s := by
  refine callType_codes (Q₁ := fun obj s₁ => s₁.TypeIs obj "bytes" ∧ Q obj s₁) F.bm_called (F.bm_typeCall _) F.entry_object_init
    (bytes_ba_new hS hz fun t k => ⟨PySem.W.typeIs_bytes _ _ _, hQ t k⟩) fun obj s₁ h₁ => ?_
  exact ⟨h₁.1, F.args_object_init_2 obj _, object_init_meets F.bm_called.init.lookup F.bm_called.made (by decide) prog w A.in1 _ s₁ ⟨h₁.1, rfl, h₁.2⟩⟩
end
end Mine
end
section
open PySem PySem.W PySem.Calls PyProof.Rows
set_option maxRecDepth 100000
namespace Mine
open PySem.Builtin PySem.Builtin._codecs
theorem foldl_one (f : Nat → UInt8) (l : List Nat) : ∀ acc : Array UInt8, l.foldl (fun acc y => acc ++ ([f y] : List UInt8).toArray) acc = acc ++ (l.map f).toArray := by
  induction l with
  | nil => intro acc; simp
  | cons a l ih => intro acc; rw [List.foldl_cons, ih]; simp
theorem loop2 {β : Type} {f : Nat → β → Sem (ForInStep β)} {b b' : β} (h1 : f 0 b = pure (.yield b')) (h2 : ∀ y, f y b' = pure (.done b')) (m : Nat) : forIn (List.range' 0 (m + 1) 1) b f = (pure b' : Sem β) := by
  rw [List.range'_succ, List.forIn_cons, h1]
  simp only [pure_bind]
  cases m with
  | zero => rfl
  | succ m =>
    rw [List.range'_succ, List.forIn_cons, h2]
    rfl
theorem enc_ascii (id : String) (self : Value) (s : PySem.Str) (errors : Option PySem.Str) (h : ∀ c ∈ s.cps.toList, c < 128) (h0 : 0 < s.cps.size) (hsz : s.cps.size ≤ sizeLine) :
    encodeNarrow id asciiCodec errors self s = pure (s.cps.map Nat.toUInt8) := by
  have hlen : s.length = s.cps.size := rfl
  unfold encodeNarrow
  rw [hlen]
  obtain ⟨m, hm⟩ : ∃ m, s.cps.size = m + 1 := ⟨s.cps.size - 1, by omega⟩
  have hc : s.cps[0]? = some s.cps[0] := Array.getElem?_eq_getElem h0
  have hbad : asciiCodec.bad s.cps[0] = false := by
    have := h s.cps[0] (by simp)
    simp [asciiCodec]; omega
  have hfind : (s.cps.extract 0 s.cps.size).findIdx? asciiCodec.bad = none := by
    rw [Array.findIdx?_eq_none_iff]
    intro x hx
    have := h x (by simpa using hx)
    simp [asciiCodec]; omega
  have hz : ¬ ((#[] : Array UInt8).size > sizeLine) := by simp
  have hfold : Array.foldl (fun acc y => acc ++ (asciiCodec.bytesOf y).toArray) #[] s.cps = s.cps.map Nat.toUInt8 := by
    rw [← Array.foldl_toList]
    show s.cps.toList.foldl (fun acc y => acc ++ ([Nat.toUInt8 y] : List UInt8).toArray) #[] = _
    rw [foldl_one]
    apply Array.ext'
    simp
  dsimp only
  rw [KPc.range_list, show List.range' 0 s.cps.size 1 = List.range' 0 (m + 1) 1 by rw [hm], loop2 (b' := (s.cps.size, s.cps.map Nat.toUInt8, {})) ?_ ?_ m]
  · rfl
  · simp only [hz, if_false, hc, hbad, Bool.not_false, if_true]
    rw [hfind]
    simp only [Option.getD_none, Array.extract_size, Nat.zero_add, hfold]
  · intro y
    have h1 : ¬ ((s.cps.map Nat.toUInt8).size > sizeLine) := by rw [Array.size_map]; omega
    have h2 : s.cps[s.cps.size]? = none := by simp
    simp only [h1, if_false, h2]
end Mine
end
section
open PySem PySem.W PySem.Calls PyProof.Rows
set_option maxRecDepth 100000
namespace Mine
open PySem.Builtin PySem.Builtin._codecs
theorem loopK {β : Type} {f : Nat → β → Sem (ForInStep β)} (g : Nat → β) (n : Nat) (h : ∀ y i, i < n → f y (g i) = pure (.yield (g (i + 1)))) :
    ∀ k i a b0, i + k = n → b0 = g i → forIn (List.range' a k 1) b0 f = (pure (g n) : Sem β) := by
  intro k
  induction k with
  | zero => intro i a b0 e hb; simp only [Nat.add_zero] at e; subst e; subst hb; rfl
  | succ k ih =>
    intro i a b0 e hb
    subst hb
    rw [List.range'_succ, List.forIn_cons, h a i (by omega)]
    simp only [pure_bind]
    exact ih (i + 1) (a + 1) _ (by omega) rfl
theorem dec_ascii (id : String) (errors : Option PySem.Str) (b : Array UInt8) (held : List Value) (h : ∀ c ∈ b.toList, c.toNat < 128) (hsz : b.size ≤ sizeLine) :
    runDecoder id asciiDecoder errors true b 0 held = pure (b.map UInt8.toNat, b.size) := by
  unfold runDecoder
  dsimp only
  rw [KPc.range_list, loopK (fun i => (i, ((b.toList.take i).map UInt8.toNat).toArray, ({ held } : Faults))) b.size ?_ b.size 0 0 _ (by omega) (by simp)]
  · simp only [pure_bind]
    rw [← Array.length_toList, List.take_length]
    congr 2
    apply Array.ext'
    simp
  · intro y i hi
    have h1 : ¬ ((((b.toList.take i).map UInt8.toNat).toArray).size > sizeLine) := by simp; omega
    have h2 : ¬ (i ≥ b.size) := by omega
    have h3 : asciiDecoder.find true b i = .char (b.getD i 0).toNat (i + 1) := by
      have : (b.getD i 0).toNat < 128 := by
        rw [Array.getD_eq_getD_getElem?, Array.getElem?_eq_getElem hi]
        exact h _ (by simp)
      show (if (b.getD i 0).toNat < 128 then _ else _) = _
      rw [if_pos this]
    simp only [h1, h2, if_false, h3]
    show pure (ForInStep.yield (i + 1, ((b.toList.take i).map UInt8.toNat).toArray ++ [(b.getD i 0).toNat].toArray, ({ held } : Faults))) = _
    congr 4
    have e : b.toList[i]? = some b[i] := by simp [hi]
    rw [List.take_add_one, e, Array.getD_eq_getD_getElem?, Array.getElem?_eq_getElem hi]
    simp
end Mine
end
section
open PySem PySem.W PySem.Calls PyProof.Rows
set_option maxRecDepth 100000
namespace Mine
open PySem.Builtin PySem.Builtin._codecs
theorem args_dec (a b : Value) : argsOk "bytes.decode" ⟨[a, b], []⟩ := by unfold argsOk; kernel_rfl
theorem dec_entry (c : UInt8) (cs : List UInt8) (t u : Tok) : «bytes.decode» ⟨[.bytes (c :: cs).toArray t, .str (PySem.Str.ofString "ascii") u], []⟩ =
    (mkStr (PySem.Str.ofString "utf-8") >>= fun _ => mkStr (PySem.Str.ofString "ascii") >>= fun e => mkStr (PySem.Str.ofString "bytes.decode") >>= fun d =>
    call (.builtin "_codecs.decode.text") [.bytes (c :: cs).toArray t, e, .none, d] >>= fun v => ret v) := by kernel_rfl
theorem dec_road (id : String) (b : Array UInt8) : decodeRoad id b (PySem.Str.ofString "ascii") none [] = (runDecoder id asciiDecoder none true b 0 [] >>= fun r => mkStr ⟨r.1⟩) := by kernel_rfl
theorem enc_road (id : String) (self : Value) (x : PySem.Str) : encodeRoad id self x (PySem.Str.ofString "ascii") none = (encodeNarrow id asciiCodec none self x >>= fun b => mkBytes b) := by kernel_rfl
theorem enc_entry (x : PySem.Str) (t u : Tok) : «str.encode» ⟨[.str x t, .str (PySem.Str.ofString "ascii") u], []⟩ = (encodeRoad "str.encode" (.str x t) x (PySem.Str.ofString "ascii") none >>= fun v => ret v) := by kernel_rfl
section
variable {prog : Program} {w : World} {M : Model} {A : Around} {E : Value → Shared → Prop} {s : Shared}
theorem call_encode {x : PySem.Str} {t u : Tok} {Q : Value → Shared → Prop} (h : ∀ c ∈ x.cps.toList, c < 128) (h0 : 0 < x.cps.size) (hz : x.cps.size ≤ sizeLine)
    (hQ : ∀ t' k, Q (.bytes (x.cps.map Nat.toUInt8) t') { s with toks := k }) :
    wpAny (model prog w) A (call (.builtin "str.encode") [.str x t, .str (PySem.Str.ofString "ascii") u]) Q E s := by
  refine wpAny_call_entry F.slot_str_encode (typeIs_str _ _ _) F.entry_str_encode ?_ (F.args_str_encode_2 _ _)
  rw [enc_entry, enc_road, enc_ascii _ _ _ _ h h0 hz]
  refine wpAny_bind (wpAny_bind (wpAny_pure ?_))
  exact wpAny_mkBytes (wpAny_pure ⟨_, rfl, hQ _ _⟩) (by rw [Array.size_map]; exact hz)
theorem call_decode {b : Array UInt8} {t u : Tok} {Q : Value → Shared → Prop} (h : ∀ c ∈ b.toList, c.toNat < 128) (h0 : 0 < b.size) (hz : b.size ≤ sizeLine)
    (hQ : ∀ t' k, Q (.str ⟨b.map UInt8.toNat⟩ t') { s with toks := k }) :
    wpAny (model prog w) A (call (.builtin "bytes.decode") [.bytes b t, .str (PySem.Str.ofString "ascii") u]) Q E s := by
  obtain ⟨l⟩ := b
  cases l with
  | nil => exact absurd h0 (by simp)
  | cons c cs =>
    refine wpAny_call_entry FB.slot_bytes_decode (typeIs_bytes _ _ _) FB.entry_bytes_decode ?_ (args_dec _ _)
    rw [dec_entry]
    refine wpAny_bind (wpAny_mkStr ?_ (by decide))
    refine wpAny_bind (wpAny_mkStr ?_ (by decide))
    refine wpAny_bind (wpAny_mkStr ?_ (by decide))
    refine wpAny_bind (call_function_entry KBd.kind_text KBd.plain_text KBd.entry_text (KBd.args_text _ _ _ _) ?_)
    show wpAny _ _ (Bytes.bytesLike _ (.bytes (c :: cs).toArray t) >>= fun r => _) _ _ _
    refine wpAny_bind (wpAny_of_eq KBd.like_eq ?_)
    refine wpAny_bind (wpAny_of_eq KBd.held_eq ?_)
    show wpAny _ _ (decodeRoad _ (c :: cs).toArray (PySem.Str.ofString "ascii") none [] >>= fun v => _) _ _ _
    rw [dec_road, dec_ascii _ _ _ _ h hz]
    refine wpAny_bind (wpAny_bind (wpAny_pure ?_))
    exact wpAny_mkStr (wpAny_pure ⟨_, rfl, wpAny_pure ⟨_, rfl, hQ _ _⟩⟩) (by show ((c :: cs).toArray.map UInt8.toNat).size ≤ _; rw [Array.size_map]; exact hz)
theorem meth_encode {x : PySem.Str} {t : Tok} {pl : Sem Bool} {Q : Value × List Value → Shared → Prop} (h : Q (.builtin "str.encode", [.str x t]) s) : wpAny M A (getMethod (.str x t) "encode" pl) Q E s := by
  with_reducible exact GM.of (.str x t) (typeIs_str _ _ _) F.slot_str_encode F.type_str_encode GM.noRef h
end
end Mine
end
section
open PySem PySem.W PySem.Calls PyProof.Rows
set_option maxRecDepth 100000
namespace Mine
def Γ0 : Ctx := ⟨.builtin "claim.caller" {}, none, none, [], none⟩
theorem ok0 : OkCtx Γ0 := ⟨rfl, fun _ h => nomatch h⟩
theorem thread_endsF {prog : Program} {w : World} {t : Sem PySem.Fin} {s : Shared} {R : Result → Shared → Prop} (hreg : s.asleep)
    (h : wpF (model prog w) callerA t (fun fin s' => ∃ f, fin = .done f ∧ (R (.ok f) s' ∧ leftWithCleanup s'.gens = false)) (fun e s' => R (.error e) s' ∧ leftWithCleanup s'.gens = false) s) :
    ∃ n r s' s'', runN (denote table) prog w n s ⟨t, .builtin "claim.caller" {}, default, []⟩ = .halted (outcomeOf r) s' ∧
      schedN (denote table) prog w n (.single s ⟨t, .builtin "claim.caller" {}, default, []⟩) = .halted (outcomeOf r) s' ∧ s'.forget = s''.forget ∧ R r s'' := by
  have h' : Sem.wp (model prog w) Γ0 t (Sem.finPost (model prog w) Γ0 (fun r s' => R r s' ∧ leftWithCleanup s'.gens = false)) (fun e _ s' => R (.error e) s' ∧ leftWithCleanup s'.gens = false) default s := by
    refine Sem.wp_mono _ _ _ (fun fin p' s' x => ?_) (fun _ _ _ x => x) _ _ (h Γ0 default caller_in ok0)
    obtain ⟨f, rfl, hf⟩ := x
    exact hf
  obtain ⟨n, r, s₁, s₂, hs, hn, hfo, hR⟩ := wp_halts_full (M := model prog w) (R := R) hreg h'
  exact ⟨n, r, s₂, s₁, hn, hs, hfo, hR⟩
theorem callFromF {c : ClaimW} {tree : List Value → Sem PySem.Fin} {w : World} {s : Shared} {free : Addr → Prop} {gens : Prop} {kept : Heap → Prop} (hz : s.asleep) (hgens : s.gens = #[])
    (hspec : ∀ args, c.pre args = true → WData.layableAll args = true →
      ∀ ord : List DictEntry → List DictEntry, (∀ l, (ord l).Perm l) →
      ∃ vs s₁, layAllW c.records (classAt s.heap) w.params ord args s = some (vs, s₁) ∧
        wpF (model c.prog w) callerA (tree vs) (fun fin s' => ∃ f, fin = .done f ∧ (c.Ends s args vs s₁ (.ok f) s' ∧ s'.os = s.os ∧ AllBare s'.gens ∧ kept s'.heap))
          (fun e s' => c.Ends s args vs s₁ (.error e) s' ∧ s'.os = s.os ∧ AllBare s'.gens ∧ kept s'.heap) s₁) :
    c.CallFrom (fun vs => ⟨tree vs, .builtin "claim.caller" {}, default, []⟩) w free gens kept s := by
  intro args hpre hlay ord hord
  obtain ⟨vs, s₁, hlaid, hcode⟩ := hspec args hpre hlay ord hord
  have hal := layAllW_rest _ _ _ hlaid
  obtain ⟨k, r, s', s'', hrun, hsched, hfo, hcase, hos, hkp⟩ := thread_endsF (prog := c.prog) (w := w) (t := tree vs) (s := s₁)
    (R := fun r s' => c.Ends s args vs s₁ r s' ∧ s'.os = s.os ∧ kept s'.heap) (Shared.asleep_of_life hal.2.2.2 hz)
    (wpF_mono hcode (by
      rintro fin s' ⟨f, e, h1, h2, h3, h4⟩
      exact ⟨f, e, ⟨h1, h2, h4⟩, leftWithCleanup_false_of_bare h3⟩) (by
      rintro e s' ⟨h1, h2, h3, h4⟩
      exact ⟨⟨h1, h2, h4⟩, leftWithCleanup_false_of_bare h3⟩))
  obtain ⟨eh, _, _, eo, _⟩ := Shared.forget_eq hfo
  have hcase := hcase.congr eh
  have hkp : kept s'.heap := by first | exact eh ▸ hkp | (rw [eh] at hkp; exact hkp) | (rw [← eh] at hkp; exact hkp)
  rw [← eo] at hos
  have hlife : s'.heap.life = s.heap.life := (runN_life _ _ _ hrun).trans hal.2.2.2
  refine ⟨vs, s₁, hlaid, k, _, s', hsched, ?_, (fun _ i x hx => by rw [hgens] at hx; simp at hx), hkp, by rw [hlife], Shared.rest_eq hos⟩
  rcases hcase with ⟨v, rfl, d1, d2, d3, d4, d5⟩ | ⟨e, ob, cls, rfl, d1, d2, d3, d4, d5⟩
  · exact .inl ⟨v, rfl, d1, d2, d3, fun b o y _ => d4 b o y, d5⟩
  · exact .inr ⟨e, ob, cls, rfl, d1, d2, d3, d4, fun b o y _ => d5 b o y⟩

/-- as the kit's WalkO, in our logic -/
abbrev WalkF (q : Program) (loose : List PySem.Str) (XP : (PySem.Str → Option Value) → Heap → Prop) (YP : World → Heap → Prop) (r : RowW) (d : DefRec) (kwd : List (PySem.Str × Expr)) : Prop :=
  ∀ (w : World) (s₀ s₁ : Shared) (mg mb : PySem.Str → Option Value), Ground q loose r.records XP w s₀ mg mb s₁.heap → YP w s₁.heap → ∀ (a : Addr) (o : Obj) (pm cd doc dV kV : Value), s₁.heap.get? a = some o →
    o.data = .func { docDef d.name d.params d.body d.scope pm cd doc with defaults := dV, kwdefaults := kV } → s₁.heap.CodeRec cd d.name → Dflts mg s₁.heap d.params kwd dV kV → mg d.name = some (.ref a) → s₁.gens = #[] →
    ∀ (args : List WData) (vals : List Value) (as : List Addr), r.claim.pre args = true → WData.layableAll args = true → ReadsAllW r.records (classAt s₀.heap) s₁.heap vals args as → WellAll w.params s₁.heap vals args → (∀ a ∈ as, (a == sysModules) = false) →
      wpF (model r.prog w) callerA (PySem.call (.ref a) vals) (fun v s' => GoodWG r.claim (classAt s₀.heap) (ExcName.means s₀.heap) args s₁ (.ok (.ret v)) s')
        (fun e s' => GoodWG r.claim (classAt s₀.heap) (ExcName.means s₀.heap) args s₁ (.error e) s') s₁

/-- the head: as the kit's holds_open, with the call asked for in our logic; o_head finds it by its name within this namespace -/
theorem PySem.W.holds_open {r : OpenRow} {q : Program} {loose : List PySem.Str} {Xt : Shared → Bool} {XP : (PySem.Str → Option Value) → Heap → Prop} {α : Type} {Yf : Shared → α} {Ya : World → α} {YP : World → Heap → Prop} {d : DefRec} {kwd : List (PySem.Str × Expr)} {N : Nat}
    (left : LeftO r.prog q loose Xt Yf Ya N) (hY : ∀ w s, Yf s = Ya w → YP w s.heap) (hYk : ∀ w h h', YP w h → (∀ b o, h.get? b = some o → h'.get? b = some o) → YP w h')
    (hX : ∀ s, Xt s = true → XP (s.heap.nsMap mainGlobals) s.heap) (hXk : ∀ mg h h', XP mg h → (∀ b o, h.get? b = some o → h'.get? b = some o) → XP mg h')
    (hdef : defOf q r.name = some (d, kwd)) (hp : r.prog.theDef r.name = some (d.params, d.body, d.scope)) (hk : kwWritten? d.params.kwonlyargs d.params.kw_defaults = some kwd) (hRf : ∀ s, Xt s = true → RecFacts r.records s.heap) (hwr : (!r.writes || r.records.isEmpty) = true)
    (k1 : r.wellSaid = true) (ok : (chainsOk q && opensWell r.prog && (frees r.toRowW && r.within.isEmpty)) = true) (hb : r.prog.bare) (hw : r.toRowW.promised)
    (call : WalkF q loose XP YP r.toRowW d kwd) : r.Holds := by
  obtain ⟨ok, k5⟩ := Bool.and_eq_true_iff.mp ok
  obtain ⟨hch, o1⟩ := Bool.and_eq_true_iff.mp ok
  obtain ⟨k5, k6⟩ := Bool.and_eq_true_iff.mp k5
  obtain ⟨hsame, hu, ha, hap, hm⟩ := frees_parts k5
  refine ⟨k1, hw, ⟨hb, o1, by show r.makers.map _ = []; rw [hm]; rfl⟩, hw.witness, fun w => ⟨(left.behind hX hch w).1, fun s' hs' => ?_⟩⟩
  obtain ⟨s₀, hf, hg0, s, hT, hz, hgens, hg, G00, y⟩ := (left.behind (XP := fun mg h => XP mg h ∧ RecFacts r.records h) (fun s hs => ⟨hX s hs, hRf s hs⟩) hch w).2 s' hs'
  have G0 : Ground q loose [] XP w s (s.heap.nsMap mainGlobals) (s.heap.nsMap builtinsNs) s.heap := ⟨G00.T, G00.B, G00.D, G00.TE, G00.TD, G00.W, G00.X.1, G00.cls, G00.has, G00.apart, G00.once, G00.K⟩
  have RF := G00.X.2
  have hT' := hT
  refine ⟨s₀, hf, hg0, s, hT, (fun n hn => ?_), RF.1, RF.2.1, ?_⟩
  · obtain rfl : n = r.name := by split at hn <;> simp_all
    exact pinned_of_view hg G0 hdef hp hk
  have hgens : s.gens = #[] := Array.eq_empty_of_size_eq_zero (beq_iff_eq.mp hgens)
  have G : Ground q loose r.records XP w s _ _ s.heap := RF.ground G0
  refine callFromF (c := r.claim) (tree := fun vs => do match ← nsGet mainNs r.name with
      | some f => do ret (← PySem.call f vs)
      | none => unsupported "claim.caller:no-such-global") hz hgens fun args hpre hlay ord hord => ?_
  obtain ⟨⟨vs, s₁⟩, hlaid⟩ := Option.isSome_iff_exists.mp (layAllW_isSome (P := w.params) (ord := ord) G.has args r.args s (pre_splitW hpre).1)
  have keeps := layAllW_keeps _ _ _ hlaid
  have hal := layAllW_rest _ _ _ hlaid
  obtain ⟨as, hrd, hin, hold⟩ := reads_layAllW hord _ _ _ hlaid hlay s₁.heap (fun _ _ e => e)
  have L : Laid r.records w s s₁ args vs as := ⟨⟨ord, hord, hlaid⟩, hrd, hin, hold, keeps, hal.1.trans hgens, hal.2.2.1⟩
  have G₁ := G.keeps hXk keeps
  obtain ⟨a, o, pm, cd, doc, dV, kV, h1, h2, h3, h4, h5⟩ := G₁.fn hdef
  have h := call w s s₁ _ _ G₁ (hYk _ _ _ (hY w s y) keeps) a o pm cd doc dV kV h2 h3 h4 h5 (defOf_name hdef ▸ h1) L.gens args vs as hpre hlay L.reads L.well (L.low G.low)
  have hi := ident_freeW hu ha hap
  have hwi : r.claim.within = [] := List.isEmpty_iff.mp k6
  refine ⟨vs, s₁, hlaid, wpF_bindA (wpAny_nsGet G₁.T.g ?_)⟩
  rw [h1]
  exact wpF_bind (wpF_mono h (fun v s' g => wpF_pure ⟨_, rfl, have z := g.laid (c := r.claim) hsame hwi hi L; ⟨z.1, z.2.1, z.2.2, fun q => ⟨namesKept_of hT' hg r.keeps keeps g.2.1.old, noTable hwr q⟩⟩⟩)
    fun e s' g => have z := g.laid (c := r.claim) hsame hwi hi L; ⟨z.1, z.2.1, z.2.2, fun q => ⟨namesKept_of hT' hg r.keeps keeps g.2.1.old, noTable hwr q⟩⟩)
end Mine
end
section
open PySem PySem.W PyProof.Rows
namespace Mine
set_option maxRecDepth 100000 in
set_option maxHeartbeats 8000000 in
open_top hd for PySem.Challenge.rw_wo0017_01
end Mine
end
section
open PySem PySem.W PySem.Calls PyProof.Rows
namespace Mine
def StrsAre : List Value → List PySem.Str → Prop
  | [], [] => True
  | v :: vs, x :: xs => (∃ t, v = .str x t) ∧ StrsAre vs xs
  | _, _ => False
theorem StrsAre.length : ∀ {vs : List Value} {xs : List PySem.Str}, StrsAre vs xs → vs.length = xs.length
  | [], [], _ => rfl
  | _ :: _, _ :: _, h => congrArg (· + 1) (StrsAre.length h.2)
  | [], _ :: _, h => h.elim
  | _ :: _, [], h => h.elim
theorem StrsAre.get : ∀ {vs : List Value} {xs : List PySem.Str}, StrsAre vs xs → ∀ (i : Nat) (x : PySem.Str), xs[i]? = some x → ∃ t, vs[i]? = some (.str x t)
  | [], [], _, _, _, e => by simp at e
  | _ :: _, _ :: _, h, 0, x, e => by
    obtain ⟨⟨t, rfl⟩, _⟩ := h
    simp at e; subst e; exact ⟨t, rfl⟩
  | _ :: _, _ :: _, h, i + 1, x, e => by
    rw [List.getElem?_cons_succ] at e ⊢
    exact StrsAre.get h.2 i x e
  | [], _ :: _, h, _, _, _ => h.elim
  | _ :: _, [], h, _, _, _ => h.elim
def mkS (l : List Nat) : PySem.Str := ⟨l.toArray⟩
def cells2 : List (List Nat) := [[97, 98], [98, 97], [99, 100], [100, 99], [101, 101], [102, 102]]
def cells3 : List (List Nat) := [[97, 98, 99], [99, 98, 97], [99, 97, 100], [100, 97, 99], [97, 98, 97], [99, 101, 99]]
def cellsOf (two : Bool) : List (List Nat) := if two then cells2 else cells3
theorem strs2 (a b c d e f : Tok) : StrsAre [.str (PySem.Str.ofString "ab") a, .str (PySem.Str.ofString "ba") b, .str (PySem.Str.ofString "cd") c, .str (PySem.Str.ofString "dc") d, .str (PySem.Str.ofString "ee") e, .str (PySem.Str.ofString "ff") f] (cells2.map mkS) :=
  ⟨⟨a, rfl⟩, ⟨b, rfl⟩, ⟨c, rfl⟩, ⟨d, rfl⟩, ⟨e, rfl⟩, ⟨f, rfl⟩, trivial⟩
theorem strs3 (a b c d e f : Tok) : StrsAre [.str (PySem.Str.ofString "abc") a, .str (PySem.Str.ofString "cba") b, .str (PySem.Str.ofString "cad") c, .str (PySem.Str.ofString "dac") d, .str (PySem.Str.ofString "aba") e, .str (PySem.Str.ofString "cec") f] (cells3.map mkS) :=
  ⟨⟨a, rfl⟩, ⟨b, rfl⟩, ⟨c, rfl⟩, ⟨d, rfl⟩, ⟨e, rfl⟩, ⟨f, rfl⟩, trivial⟩
end Mine
end
section
open PySem PySem.W PySem.Calls PyProof.Rows
namespace Mine
abbrev up (m : PySem.Str → Option Value) (x : PySem.Str) (v : Option Value) : PySem.Str → Option Value := fun y => if y = x then v else m y
theorem up_up {m : PySem.Str → Option Value} {x : PySem.Str} {v v' : Option Value} : up (up m x v) x v' = up m x v' := by
  funext y; unfold up; split <;> rfl
theorem up_swap {m : PySem.Str → Option Value} {x z : PySem.Str} {v v' : Option Value} (h : x ≠ z) : up (up m x v) z v' = up (up m z v') x v := by
  funext y; unfold up
  by_cases h1 : y = z
  · subst h1; simp [Ne.symm h]
  · by_cases h2 : y = x
    · subst h2; simp [h]
    · simp [h1, h2]
theorem up_self {m : PySem.Str → Option Value} {x : PySem.Str} : up m x (m x) = m := by
  funext y; unfold up; split
  · rename_i h; rw [h]
  · rfl
theorem lookup_up (y : PySem.Str) : ∀ l : List (PySem.Str × Value), List.lookup y l = (l.foldr (fun p m => up m p.1 (some p.2)) (fun _ => none)) y
  | [] => rfl
  | (x, v) :: r => by
    rw [List.lookup_cons, List.foldr_cons]
    unfold up
    by_cases h : y = x
    · subst h; simp
    · rw [if_neg h, beq_false_of_ne h]
      exact lookup_up y r
theorem ups_eq (l : List (PySem.Str × Value)) : (fun y => l.reverse.lookup y) = l.foldl (fun m p => up m p.1 (some p.2)) (fun _ => none) := by
  funext y
  rw [lookup_up, List.foldr_reverse]
def Hold (P : Prop) : Prop := P
theorem Hold.mk {P : Prop} (h : Hold P) : P := h
theorem Hold.in {P : Prop} (h : P) : Hold P := h
end Mine
end
section
open PySem PySem.W PySem.Calls PyProof.Rows
set_option maxRecDepth 100000
namespace Mine
section
variable {prog : Program} {w : World} {A A₀ : Around} {E : Value → Shared → Prop} {s : Shared} {K : Frag} {L : Addr} {h₀ base : Heap} {m mg mb : PySem.Str → Option Value} {p : Program} {loose : List PySem.Str} {mean : ExcName → Option Value}
theorem ground0 {R : Result → Shared → Prop} {env : Env} {outer : List Env} (B : Below A₀ base outer h₀) (F : Fr h₀ L s.heap m) (hA : A.frames = some (env :: outer)) (hf : env.frame = some L) (hke : env.scope.kind = .function) :
    Below A base (env :: outer) s.heap ∧ h₀.StaysIn s.heap := by
  obtain ⟨_, BG, st, _⟩ := groundX (R := R) (news := []) B F (fun _ h => nomatch h) hA hf hke
  exact ⟨BG, st⟩
theorem code_def0 {env : Env} {outer : List Env} {R : Result → Shared → Prop} {name qual : PySem.Str} {params : Arguments} {body : List Stmt} {scope : Scope} {dV kV doc pm cdv ct oc : Value} {an od : Option Addr} {osl : Array (Option Value)} {f : Addr} {args : Args} {binds : List (PySem.Str × Value)}
    (B : Below A₀ base outer h₀) (F : Fr h₀ L s.heap m) (X₀ : K.In h₀) (T : Top p loose mean mg mb h₀) (hA : A.frames = some (env :: outer)) (hf : env.frame = some L) (hke : env.scope.kind = .function)
    (ho : K.lookup f = some ⟨oc, od, .func (fnOf name qual params body scope dV kV doc pm an cdv ct), osl⟩) (hcd : codeIn K cdv qual = true) (hroom : A.depth < recursionLimit)
    (hbind : BindsTo s (fnOf name qual params body scope dV kV doc pm an cdv ct) args binds) (hloc : ∀ y ∈ binds, scope.names.lookup y.1 = some .local)
    (h : ∀ L' h₁, Fr s.heap L' h₁ (binds.foldl (fun m p => up m p.1 (some p.2)) (fun _ => none)) → News s.heap L' h₁ [] → Below A base (env :: outer) s.heap → K.In s.heap → Top p loose mean mg mb s.heap →
      wpAny (model prog w) (A.deeper (envOf qual scope L' f cdv)) (execs body (envOf qual scope L' f cdv)) (fun fl s' => R (.ok (.ret (match fl with | .ret v => v | _ => .none))) s')
        (fun e s' => wpAny (model prog w) (A.deeper (envOf qual scope L' f cdv)) (leaving (envOf qual scope L' f cdv) e) (fun _ s'' => R (.error e) s'') (fun e' s'' => R (.error e') s'') s')
        { s with heap := h₁, toks := s.toks + binds.length })
    (hco : scope.isCoroutine = false) (hgen : scope.isGenerator = false) (hk : scope.kind = .function)
    (hcell : ∀ x ∈ scope.names, x.2 ≠ .cell) : codeAny (model prog w) A (.call (.ref f) args) R s := by
  obtain ⟨BG, st⟩ := ground0 (R := R) B F hA hf hke
  refine codeAny_call_function (fd := fnOf name qual params body scope dV kV doc pm an cdv ct) (body := body) hroom ((X₀.keeps F.keep) _ _ ho) rfl hco hgen rfl (codeRec_of (X₀.keeps F.keep) hcd) (hbind _ _ _ _ ?_)
  refine wpAny_newFunctionEnv hcell hloc (fun h₁ hns hsb => ⟨((T.nolimit).keeps F.keep).fresh _ hsb, codeAny_func ?_⟩) hk
  have hk₁ : ∀ b o, s.heap.get? b = some o → h₁.get? b = some o := fun b o e => hsb.extBut b o (Nat.ne_of_lt (Heap.lt_size e)) (Heap.get?_push_of_some _ e)
  exact h s.heap.objs.size h₁ ⟨ups_eq binds ▸ hns, hk₁, Nat.le_refl _⟩ (fun _ h => nomatch h) BG (X₀.keeps st) (T.keeps st)
theorem code_defF0 {env : Env} {outer : List Env} {R : Result → Shared → Prop} {name qual : PySem.Str} {params : Arguments} {body : List Stmt} {scope : Scope} {dV kV doc pm cdv ct oc : Value} {an od : Option Addr} {osl : Array (Option Value)} {f : Addr} {args : Args} {binds : List (PySem.Str × Value)}
    (B : Below A₀ base outer h₀) (F : Fr h₀ L s.heap m) (X₀ : K.In h₀) (T : Top p loose mean mg mb h₀) (hA : A.frames = some (env :: outer)) (hf : env.frame = some L) (hke : env.scope.kind = .function)
    (ho : K.lookup f = some ⟨oc, od, .func (fnOf name qual params body scope dV kV doc pm an cdv ct), osl⟩) (hcd : codeIn K cdv qual = true) (hroom : A.depth < recursionLimit)
    (hbind : BindsTo s (fnOf name qual params body scope dV kV doc pm an cdv ct) args binds) (hloc : ∀ y ∈ binds, scope.names.lookup y.1 = some .local)
    (h : ∀ L' h₁, Fr s.heap L' h₁ (binds.foldl (fun m p => up m p.1 (some p.2)) (fun _ => none)) → News s.heap L' h₁ [] → Below A base (env :: outer) s.heap → K.In s.heap → Top p loose mean mg mb s.heap →
      wpF (model prog w) (A.deeper (envOf qual scope L' f cdv)) (execs body (envOf qual scope L' f cdv)) (fun fl s' => R (.ok (.ret (match fl with | .ret v => v | _ => .none))) s')
        (fun e s' => wpAny (model prog w) (A.deeper (envOf qual scope L' f cdv)) (leaving (envOf qual scope L' f cdv) e) (fun _ s'' => R (.error e) s'') (fun e' s'' => R (.error e') s'') s')
        { s with heap := h₁, toks := s.toks + binds.length })
    (hco : scope.isCoroutine = false) (hgen : scope.isGenerator = false) (hk : scope.kind = .function)
    (hcell : ∀ x ∈ scope.names, x.2 ≠ .cell) : codeF (model prog w) A (.call (.ref f) args) R s := by
  obtain ⟨BG, st⟩ := ground0 (R := R) B F hA hf hke
  refine codeF_call_function (fd := fnOf name qual params body scope dV kV doc pm an cdv ct) (body := body) hroom ((X₀.keeps F.keep) _ _ ho) rfl hco hgen rfl (codeRec_of (X₀.keeps F.keep) hcd) (hbind _ _ _ _ ?_)
  refine wpAny_newFunctionEnv hcell hloc (fun h₁ hns hsb => ⟨((T.nolimit).keeps F.keep).fresh _ hsb, codeF_func ?_⟩) hk
  have hk₁ : ∀ b o, s.heap.get? b = some o → h₁.get? b = some o := fun b o e => hsb.extBut b o (Nat.ne_of_lt (Heap.lt_size e)) (Heap.get?_push_of_some _ e)
  exact h s.heap.objs.size h₁ ⟨ups_eq binds ▸ hns, hk₁, Nat.le_refl _⟩ (fun _ h => nomatch h) BG (X₀.keeps st) (T.keeps st)
end
noncomputable abbrev KK (w : World) : Frag := hd.heap_39 w.params
/-- what a def's call gives, in any frame: all that stands is kept -/
def Ctr (w : World) (mean : ExcName → Option Value) (mg mb : PySem.Str → Option Value) (f : Addr) (rm : Nat) (pre : Heap → Prop) (vs : List Value) (post : Value → Heap → Heap → Prop) : Prop :=
  ∀ (dp un : Nat) (cn : PySem.Str) (cs : Scope) (a : Addr) (ccd : Value) (cl : List (PySem.Str × Addr)) (outer : List Env) (A₀ : Around) (base h₀ : Heap) (L : Addr) (m : PySem.Str → Option Value) (s : Shared) (Q E : Value → Shared → Prop),
    Below A₀ base outer h₀ → Fr h₀ L s.heap m → (KK w).In h₀ → Top hd.view_39 (looseW hd.view_39 []) mean mg mb h₀ → cs.kind = .function → pre s.heap → dp + rm < recursionLimit → un + 8 * rm < cLine →
    (∀ r h' tk', (∀ b o, s.heap.get? b = some o → h'.get? b = some o) → post r s.heap h' → Q r { s with heap := h', toks := tk' }) →
    wpAny (model Challenge.rw_wo0017_01.row.prog w) (ktrTop dp un (some []) cn cs L a ccd cl outer) (call (.ref f) vs) Q E s
def CtrF (w : World) (mean : ExcName → Option Value) (mg mb : PySem.Str → Option Value) (f : Addr) (rm : Nat) (pre : Heap → Prop) (vs : List Value) (post : Value → Heap → Heap → Prop) : Prop :=
  ∀ (dp un : Nat) (cn : PySem.Str) (cs : Scope) (a : Addr) (ccd : Value) (cl : List (PySem.Str × Addr)) (outer : List Env) (A₀ : Around) (base h₀ : Heap) (L : Addr) (m : PySem.Str → Option Value) (s : Shared) (Q E : Value → Shared → Prop),
    Below A₀ base outer h₀ → Fr h₀ L s.heap m → (KK w).In h₀ → Top hd.view_39 (looseW hd.view_39 []) mean mg mb h₀ → cs.kind = .function → pre s.heap → dp + rm < recursionLimit → un + 8 * rm < cLine →
    (∀ r h' tk', (∀ b o, s.heap.get? b = some o → h'.get? b = some o) → post r s.heap h' → Q r { s with heap := h', toks := tk' }) →
    wpF (model Challenge.rw_wo0017_01.row.prog w) (ktrTop dp un (some []) cn cs L a ccd cl outer) (call (.ref f) vs) Q E s
theorem fill {P : Prop} (H : PySem.Challenge.rw_wo0017_01 = PySem.Challenge.rw_wo0017_01 → hd.heap_39 = hd.heap_39 → P) : P := H rfl rfl
section
variable {prog : Program} {w : World} {M : Model} {A : Around} {E : Value → Shared → Prop} {s : Shared} {L : Addr} {h₀ : Heap} {m : PySem.Str → Option Value} {news news' : List (Addr × Obj)}
theorem bytearray_K {n : Nat} {t : Tok} {Q : Value → Shared → Prop} (F : Fr h₀ L s.heap m) (N : News h₀ L s.heap news) (hn : n ≤ sizeLine)
    (h : ∀ a h', Fr h₀ L h' m → News h₀ L h' ((a, baObj (Array.replicate n 0)) :: news) → (∀ p ∈ news, p.1 < a) → Q (.ref a) { s with heap := h' }) : wpF (model prog w) A (call (.type "bytearray") [.int n t]) Q E s := by
  refine call_bytearray hn fun h' hk hb _ => h _ h' (F.grownK hk) (fun p hp => ?_) fun p hp => Heap.lt_size (N p hp).1
  rcases List.mem_cons.mp hp with rfl | hp
  · exact ⟨hb, Nat.ne_of_gt F.ns.lt, F.fresh⟩
  · exact (N.keeps hk) p hp
theorem setba_K {D : Addr} {b : Array UInt8} {k : Int} {t : Tok} {v : Int} {u : Tok} {Q : Unit → Shared → Prop} (F : Fr h₀ L s.heap m) (N : News h₀ L s.heap news)
    (U : Upd D (baObj b) (baObj (b.setIfInBounds k.toNat v.toNat.toUInt8)) news news') (hz : b.size ≤ sizeLine) (h0 : 0 ≤ k) (hfit : k < 2 ^ 63) (hn : k < b.size) (hv0 : 0 ≤ v) (hv1 : v < 256)
    (h : ∀ h', Fr h₀ L h' m → News h₀ L h' news' → Q () { s with heap := h' }) : wpAny (model prog w) A (setItem (.ref D) (.int k t) (.int v u)) Q E s := by
  obtain ⟨pre, post, rfl, rfl, a, b'⟩ := U.split
  have z := N (D, baObj b) (List.mem_append.mpr (.inr (.head _)))
  exact setItem_bytearray z.1 hz h0 hfit hn hv0 hv1 (h _ (F.change (Heap.SameBut.update ..) z.2.1 z.2.2) (news_set N a b' (Heap.SameBut.update ..) (ba_update z.1)))
theorem bytesba_K {D : Addr} {b : Array UInt8} {Q : Value → Shared → Prop} (N : News h₀ L s.heap news) (hm : (D, baObj b) ∈ news) (hz : b.size ≤ sizeLine) (h : ∀ t k, Q (.bytes b t) { s with toks := k }) :
    wpAny (model prog w) A (call (.type "bytes") [.ref D]) Q E s := call_bytes_ba (N _ hm).1 hz h
end
end Mine
end
section
open PySem PySem.W PySem.Calls PyProof.Rows
namespace Mine
theorem size_steps {p0 k : Nat} (hk : 0 < k) : Builtin.Range.rangeSize 0 ((p0 * k : Nat) : Int) (k : Int) = (p0 : Int) := by
  rw [rangeSize_pos (by omega) (by omega)]
  have e : ((p0 * k : Nat) : Int) + (k : Int) - 1 = ((k - 1 : Nat) : Int) + (p0 : Int) * (k : Int) := by rw [Int.natCast_mul]; omega
  rw [e, Int.add_mul_ediv_right _ _ (by omega), Int.ediv_eq_zero_of_lt (by omega) (by omega)]
  omega
theorem small_steps {n k : Nat} (hk : 0 < k) (hn : n ≤ 100000) (hk1 : k ≤ 100000) (h : ∃ p0, n = p0 * k) : Builtin.Range.small 0 (n : Int) (k : Int) = true := by
  obtain ⟨p0, rfl⟩ := h
  unfold Builtin.Range.small
  simp only [size_steps hk]
  have hp : p0 ≤ p0 * k := Nat.le_mul_of_pos_right p0 hk
  generalize p0 * k = n at hn hp
  simp only [Builtin.Range.rangeFitsLong, Bool.and_eq_true, Bool.or_eq_true, decide_eq_true_eq, beq_iff_eq, show ((k : Int) > 0) by omega, if_true]
  refine ⟨⟨⟨⟨?_, ?_⟩, ?_⟩, ?_⟩, .inr ?_⟩ <;> omega
theorem swap_step {k i j : Nat} {arr b : Array UInt8} (hj : j < k) (hz : arr.size = b.size) (hlt : i * k + k ≤ arr.size)
    (hJ : ∀ p j, p < i → j < k → arr[p * k + (k - 1 - j)]? = b[p * k + j]?) (hI : ∀ j', j' < j → arr[i * k + (k - 1 - j')]? = b[i * k + j']?) :
    (∀ p j', p < i → j' < k → (arr.setIfInBounds (i * k + (k - 1 - j)) (b.toList.getD (i * k + j) 0))[p * k + (k - 1 - j')]? = b[p * k + j']?) ∧
    ∀ j', j' < j + 1 → (arr.setIfInBounds (i * k + (k - 1 - j)) (b.toList.getD (i * k + j) 0))[i * k + (k - 1 - j')]? = b[i * k + j']? := by
  constructor
  · intro p j' hp hj'
    rw [Array.getElem?_setIfInBounds, if_neg]
    · exact hJ p j' hp hj'
    · have : (p + 1) * k ≤ i * k := Nat.mul_le_mul_right k (by omega)
      rw [Nat.add_mul] at this
      omega
  · intro j' hj'
    rw [Array.getElem?_setIfInBounds]
    by_cases e : j' = j
    · subst e
      rw [if_pos rfl, if_pos (by omega)]
      have : i * k + j' < b.size := by omega
      rw [List.getD_eq_getElem?_getD, Array.getElem?_toList, Array.getElem?_eq_getElem this]
      rfl
    · rw [if_neg (by omega)]
      exact hI j' (by omega)
theorem swap_next {k i : Nat} {arr b : Array UInt8} (hJ : ∀ p j, p < i → j < k → arr[p * k + (k - 1 - j)]? = b[p * k + j]?) (hI : ∀ j', j' < k → arr[i * k + (k - 1 - j')]? = b[i * k + j']?) :
    ∀ p j, p < i + 1 → j < k → arr[p * k + (k - 1 - j)]? = b[p * k + j]? := by
  intro p j hp hj
  by_cases e : p = i
  · subst e; exact hI j hj
  · exact hJ p j (by omega) hj
theorem rev_of {l : List Nat} {c : Array UInt8} (hs : c.size = ((mkS l).cps.map Nat.toUInt8).size)
    (h : ∀ p j, p < 1 → j < (mkS l).length → c[p * (mkS l).length + ((mkS l).length - 1 - j)]? = ((mkS l).cps.map Nat.toUInt8)[p * (mkS l).length + j]?) : c = (l.reverse.map Nat.toUInt8).toArray := by
  have hlen : (mkS l).length = l.length := by simp [mkS, PySem.Str.length]
  have hs' : c.size = l.length := by rw [hs]; simp [mkS]
  rw [hlen] at h
  apply Array.ext'
  apply List.ext_getElem?
  intro i
  by_cases hi : i < l.length
  · have := h 0 (l.length - 1 - i) (by omega) (by omega)
    rw [Nat.zero_mul, Nat.zero_add, Nat.zero_add, show l.length - 1 - (l.length - 1 - i) = i by omega] at this
    rw [Array.getElem?_toList, this]
    simp only [mkS, List.map_toArray, List.getElem?_toArray, List.getElem?_map]
    rw [List.getElem?_reverse hi]
  · rw [Array.getElem?_toList, Array.getElem?_eq_none (by omega)]
    simp only [List.map_reverse]
    rw [List.getElem?_eq_none]
    simp; omega
theorem low_of {l : List Nat} (hl : ∀ x ∈ l, x < 128) : ∀ c ∈ ((l.map Nat.toUInt8).toArray).toList, c.toNat < 128 := by
  intro c hc
  simp only [List.mem_map] at hc
  obtain ⟨x, hx, rfl⟩ := hc
  have := hl x hx
  rw [UInt8.toNat_ofNat']
  omega
theorem back_of {l : List Nat} (hl : ∀ x ∈ l, x < 128) : (⟨((l.map Nat.toUInt8).toArray).map UInt8.toNat⟩ : PySem.Str) = mkS l := by
  unfold mkS
  congr 1
  rw [List.map_toArray, List.map_map]
  congr 1
  conv => rhs; rw [← List.map_id l]
  apply List.map_congr_left
  intro x hx
  have := hl x hx
  show (Nat.toUInt8 x).toNat = x
  rw [UInt8.toNat_ofNat']
  omega
theorem u8_back (x : UInt8) : ((x.toNat : Nat) : Int).toNat.toUInt8 = x := by
  rw [Int.toNat_natCast]; simp
end Mine
end
section
open PySem PySem.W PySem.Calls PyProof.Rows
set_option maxRecDepth 100000
namespace Mine

theorem coll_zero (x y : PySem.Str) : b2i (decide (y.cps.toList < x.cps.toList)) - b2i (decide (x.cps.toList < y.cps.toList)) = 0 ↔ x = y := by
  constructor
  · intro h
    by_cases h1 : y.cps.toList < x.cps.toList
    · have h2 : ¬ x.cps.toList < y.cps.toList := List.lt_asymm h1
      rw [decide_eq_true h1, decide_eq_false h2] at h
      exact absurd h (by decide)
    · by_cases h2 : x.cps.toList < y.cps.toList
      · rw [decide_eq_true h2, decide_eq_false h1] at h
        exact absurd h (by decide)
      · have e : x.cps.toList = y.cps.toList := List.le_antisymm h1 h2
        obtain ⟨⟨a⟩⟩ := x
        obtain ⟨⟨b⟩⟩ := y
        exact congrArg (fun l => (⟨⟨l⟩⟩ : PySem.Str)) e
  · rintro rfl
    exact Int.sub_self _

set_option maxHeartbeats 8000000 in
theorem strcoll_c (w : World) (mean : ExcName → Option Value) (mg mb : PySem.Str → Option Value) (x y : PySem.Str) (t u : Tok) :
    Ctr w mean mg mb 35 4 (fun _ => True) [.str x t, .str y u] (fun r _ _ => ∃ (i : Int) (k : Tok), r = .int i k ∧ (i = 0 ↔ x = y)) := by
  w_top off
  refine fill ?_
  unfold Ctr KK
  k_fill
  intro _ _ dp un cn cs a ccd cl outer A₀ base h₀ L m s Q E B F X T hk hpre hd hu hret
  refine wpAny_call ?_
  k_dflt (refine' code_def0 (binds := [(PySem.Str.ofString "a", .str x t), (PySem.Str.ofString "b", .str y u)]) ?k1 ?k2 ?k3 ?k5 ?kA ?kF ?kK ?k6 ?k7 ?k8 ?k9 ?kB ?_ ?c2 ?c3 ?c4 ?c5; (case kA => exact rfl); (case kF => exact rfl); (case kK => assumption); (case k1 => k_asm); (case k2 => k_asm); (case k3 => k_asm); (case k5 => k_asm); (case k6 => k_is); (case k7 => k_is); (case k8 => ktr_room); (case k9 => exact BindsTo.of_eq rfl); (case c5 => decide); (case kB => exact locs rfl); (case c2 => exact rfl); (case c3 => exact rfl); (case c4 => exact rfl); k_whole; intro L' h' F' N' B' X' T'; (simp only [List.foldl_cons, List.foldl_nil, List.length_cons, List.length_nil] at F' ⊢); (try k_fold))
  k_steps
  exact hret _ _ _ (Fr.keep (by assumption)) ⟨_, _, rfl, coll_zero x y⟩

end Mine
end
section
open PySem PySem.W PySem.Calls PyProof.Rows
set_option maxRecDepth 100000
namespace Mine

set_option maxHeartbeats 8000000 in
theorem loc_c (w : World) (mean : ExcName → Option Value) (mg mb : PySem.Str → Option Value) (x y : PySem.Str) (t u : Tok) (l : Addr) (hx : x.length ≤ 100000) (hy : y.length ≤ 100000) :
    Ctr w mean mg mb 42 4 (fun h => IsTup h l #[.str x t, .str y u]) [.ref l] (fun r _ _ => ∃ (k : Tok), r = .str (x ++ PySem.Str.ofString "." ++ y) k) := by
  w_top off
  refine fill ?_
  unfold Ctr KK
  k_fill
  intro _ _ dp un cn cs a ccd cl outer A₀ base h₀ L m s Q E B F X T hk hpre hd hu hret
  refine wpAny_call ?_
  k_dflt (refine' code_def0 (binds := [(PySem.Str.ofString "localetuple", .ref l)]) ?k1 ?k2 ?k3 ?k5 ?kA ?kF ?kK ?k6 ?k7 ?k8 ?k9 ?kB ?_ ?c2 ?c3 ?c4 ?c5; (case kA => exact rfl); (case kF => exact rfl); (case kK => assumption); (case k1 => k_asm); (case k2 => k_asm); (case k3 => k_asm); (case k5 => k_asm); (case k6 => k_is); (case k7 => k_is); (case k8 => ktr_room); (case k9 => exact BindsTo.of_eq rfl); (case c5 => decide); (case kB => exact locs rfl); (case c2 => exact rfl); (case c3 => exact rfl); (case c4 => exact rfl); k_whole; intro L' h' F' N' B' X' T'; (simp only [List.foldl_cons, List.foldl_nil, List.length_cons, List.length_nil] at F' ⊢); (try k_fold))
  k_steps
  exact hret _ _ _ (Fr.keep (by assumption)) ⟨_, rfl⟩

end Mine
end
section
open PySem PySem.W PySem.Calls PyProof.Rows
set_option maxRecDepth 100000
namespace Mine

set_option maxHeartbeats 8000000 in
theorem cells_c (w : World) (mean : ExcName → Option Value) (mg mb : PySem.Str → Option Value) (k : Int) (t : Tok) :
    Ctr w mean mg mb 54 4 (fun h => True) [.int k t] (fun r h h' => ∃ l n vs, r = .ref l ∧ h.get? l = none ∧ h'.get? l = some (listOf vs n) ∧ StrsAre vs.toList ((cellsOf (decide (k = 2))).map mkS)) := by
  w_top off
  refine fill ?_
  unfold Ctr KK
  k_fill
  intro _ _ dp un cn cs a ccd cl outer A₀ base h₀ L m s Q E B F X T hk hpre hd hu hret
  refine wpAny_call ?_
  k_dflt (refine' code_def0 (binds := [(PySem.Str.ofString "width", .int k t)]) ?k1 ?k2 ?k3 ?k5 ?kA ?kF ?kK ?k6 ?k7 ?k8 ?k9 ?kB ?_ ?c2 ?c3 ?c4 ?c5; (case kA => exact rfl); (case kF => exact rfl); (case kK => assumption); (case k1 => k_asm); (case k2 => k_asm); (case k3 => k_asm); (case k5 => k_asm); (case k6 => k_is); (case k7 => k_is); (case k8 => ktr_room); (case k9 => exact BindsTo.of_eq rfl); (case c5 => decide); (case kB => exact locs rfl); (case c2 => exact rfl); (case c3 => exact rfl); (case c4 => exact rfl); k_whole; intro L' h' F' N' B' X' T'; (simp only [List.foldl_cons, List.foldl_nil, List.length_cons, List.length_nil] at F' ⊢); (try k_fold))
  k_steps
  · have hk2 : k = 2 := by assumption
    rename (News _ _ _ _) => hN
    have hm := hN _ (.head _)
    refine hret _ _ _ (Fr.keep (by assumption)) ⟨_, _, _, rfl, hm.2.2, hm.1, ?_⟩
    rw [decide_eq_true hk2]
    exact strs2 _ _ _ _ _ _
  · have hk2 : ¬ k = 2 := by first | assumption | omega
    rename (News _ _ _ _) => hN
    have hm := hN _ (.head _)
    refine hret _ _ _ (Fr.keep (by assumption)) ⟨_, _, _, rfl, hm.2.2, hm.1, ?_⟩
    rw [decide_eq_false hk2]
    exact strs3 _ _ _ _ _ _

end Mine
end
section
open PySem PySem.W PySem.Calls PyProof.Rows
set_option maxRecDepth 100000
namespace Mine

local macro_rules | `(tactic| walk_at "pyIter ref") => `(tactic| (k_here; (with_reducible show wpAny _ _ (pyIter (Value.ref _)) (fun it s₂ => LoopAtV _ _ _ _ _ _ _ _ _ it s₂) _ _); refine Hold.mk ?_))

set_option maxHeartbeats 8000000 in
theorem bs_c (w : World) (mean : ExcName → Option Value) (mg mb : PySem.Str → Option Value) (b : Array UInt8) (t : Tok) (k : Nat) (u : Tok) (p0 : Nat) (hk0 : 0 < k) (hb : b.size = p0 * k) (hz : b.size ≤ 100000) (hk1 : k ≤ 100000) :
    CtrF w mean mg mb 21 4 (fun _ => True) [.bytes b t, .int k u] (fun r _ _ => ∃ (c : Array UInt8) (tk : Tok), r = .bytes c tk ∧ c.size = b.size ∧ ∀ p j, p < p0 → j < k → c[p * k + (k - 1 - j)]? = b[p * k + j]?) := by
  w_top off
  refine fill ?_
  unfold CtrF KK
  k_fill
  intro _ _ dp un cn cs a ccd cl outer A₀ base h₀ L m s Q E B F X T hk hpre hd hu hret
  refine wpF_call ?_
  k_dflt (refine' code_defF0 (binds := [(PySem.Str.ofString "data", .bytes b t), (PySem.Str.ofString "width", .int k u)]) ?k1 ?k2 ?k3 ?k5 ?kA ?kF ?kK ?k6 ?k7 ?k8 ?k9 ?kB ?_ ?c2 ?c3 ?c4 ?c5; (case kA => exact rfl); (case kF => exact rfl); (case kK => assumption); (case k1 => k_asm); (case k2 => k_asm); (case k3 => k_asm); (case k5 => k_asm); (case k6 => k_is); (case k7 => k_is); (case k8 => ktr_room); (case k9 => exact BindsTo.of_eq rfl); (case c5 => decide); (case kB => exact locs rfl); (case c2 => exact rfl); (case c3 => exact rfl); (case c4 => exact rfl); k_whole; intro L' h' F' N' B' X' T'; (simp only [List.foldl_cons, List.foldl_nil, List.length_cons, List.length_nil] at F' ⊢); (try k_fold))
  have hkk : (k : Int) ≠ 0 := by omega
  refine execsF_cons ?_
  refine execF_Assign ?_ (by rfl)
  refine evalF_Call ?_
  k_steps
  refine callWithF_type ?_ (by rfl) (by rfl)
  k_steps
  refine bytearray_K (by assumption) (by assumption) (by rw [sizeLine_eq]; omega) fun D h2 F2 N2 l2 => ?_
  refine wpF_of_any ?_
  k_steps
  refine wpF_of_any ?_
  k_steps
  rename Fr _ _ _ _ => F4
  rename News _ _ _ _ => N4
  rename IsRange _ _ _ _ _ _ _ _ => R4
  refine Hold.in ?_
  refine krs_iter (n := p0) (by rfl) R4 (small_steps hk0 hz hk1 ⟨p0, hb⟩) (by rw [hb]; exact size_steps hk0) F4 N4 ?_
  intro I l5
  clear F4 N4 R4
  have hDI : @LT.lt Nat _ D I := l5 _ (.head _)
  -- the outer loop
  have m0 : ∀ m : PySem.Str → Option Value, m = up (up m (PySem.Str.ofString "i") (m (PySem.Str.ofString "i"))) (PySem.Str.ofString "j") (m (PySem.Str.ofString "j")) := fun m => by rw [up_self, up_self]
  suffices outer : ∀ (kk i : Nat) (vi vj : Option Value) (arr : Array UInt8), i + kk = p0 → arr.size = b.size → (∀ p j, p < i → j < k → arr[p * k + (k - 1 - j)]? = b[p * k + j]?) →
      KrsRest _ _ _ _ _ _ _ _ _ _ I 0 (k : Int) p0 kk i (up (up (up (up (up (fun _ => none) (PySem.Str.ofString "data") (some (.bytes b t))) (PySem.Str.ofString "width") (some (.int k u))) (PySem.Str.ofString "swapped_data") (some (.ref D))) (PySem.Str.ofString "i") vi) (PySem.Str.ofString "j") vj) [(D, baObj arr)] by
    have h9 := outer p0 0 none none (Array.replicate b.size 0) (by omega) (by simp) (fun p j hp => absurd hp (Nat.not_lt_zero _))
    have e9 : up (up (up (up (up (fun _ => none) (PySem.Str.ofString "data") (some (.bytes b t))) (PySem.Str.ofString "width") (some (.int k u))) (PySem.Str.ofString "swapped_data") (some (.ref D))) (PySem.Str.ofString "i") none) (PySem.Str.ofString "j") none = up (up (up (fun _ => none) (PySem.Str.ofString "data") (some (.bytes b t))) (PySem.Str.ofString "width") (some (.int k u))) (PySem.Str.ofString "swapped_data") (some (.ref D)) := (m0 _).symm
    rw [e9] at h9
    exact h9
  clear l5
  intro kk
  induction kk with
  | zero =>
    intro i vi vj arr hi hsz hJ
    obtain rfl : i = p0 := by omega
    refine KrsRest.zero fun h5 tk5 F5 N5 => ?_
    dsimp only
    k_steps
    refine bytesba_K (by assumption) (.head _) (by rw [sizeLine_eq]; omega) fun t6 k6 => ?_
    exact hret _ _ _ (Fr.keep (by assumption)) ⟨_, _, rfl, hsz, hJ⟩
  | succ kk ih =>
    intro i vi vj arr hi hsz hJ
    refine KrsRest.succ (v := (i : Int) * k) (by omega) fun t5 h5 tk5 F5 N5 => ?_
    have F6 : Fr s.heap L' h5 (up (up (up (up (up (fun _ => none) (PySem.Str.ofString "data") (some (.bytes b t))) (PySem.Str.ofString "width") (some (.int k u))) (PySem.Str.ofString "swapped_data") (some (.ref D))) (PySem.Str.ofString "i") (some (.int ((i : Int) * k) t5))) (PySem.Str.ofString "j") vj) := by
      have e := up_up (m := up (up (up (fun _ => none) (PySem.Str.ofString "data") (some (.bytes b t))) (PySem.Str.ofString "width") (some (.int k u))) (PySem.Str.ofString "swapped_data") (some (.ref D))) (x := PySem.Str.ofString "i") (v := vi) (v' := some (.int ((i : Int) * k) t5))
      rw [← e, up_swap (by decide)]
      exact F5
    clear F5
    k_steps
    rename Fr _ _ _ _ => F7
    rename News _ _ _ _ => N7
    rename IsRange _ _ _ _ _ _ _ _ => R7
    refine Hold.in ?_
    have sz1 : Builtin.Range.rangeSize 0 (k : Int) 1 = (k : Int) := by have := size_steps (p0 := k) (k := 1) (by omega); simpa using this
    have sm1 : Builtin.Range.small 0 (k : Int) 1 = true := by have := small_steps (n := k) (k := 1) (by omega) hk1 (by omega) ⟨k, by omega⟩; simpa using this
    refine krs_iter (n := k) (by rfl) R7 sm1 sz1 F7 N7 ?_
    intro I2 l8
    clear F7 N7 R7
    have hII : @LT.lt Nat _ I I2 := l8 _ (.head _)
    suffices inner : ∀ (jj j : Nat) (vj : Option Value) (arr : Array UInt8), j + jj = k → arr.size = b.size → (∀ p j, p < i → j < k → arr[p * k + (k - 1 - j)]? = b[p * k + j]?) → (∀ j', j' < j → arr[i * k + (k - 1 - j')]? = b[i * k + j']?) →
        KrsRest _ _ _ _ _ _ _ _ _ _ I2 0 1 k jj j (up (up (up (up (up (fun _ => none) (PySem.Str.ofString "data") (some (.bytes b t))) (PySem.Str.ofString "width") (some (.int k u))) (PySem.Str.ofString "swapped_data") (some (.ref D))) (PySem.Str.ofString "i") (some (.int ((i : Int) * k) t5))) (PySem.Str.ofString "j") vj) [(I, krsIt (0 + ((i + 1 : Nat) : Int) * (k : Int)) ((p0 : Int) - ((i + 1 : Nat) : Int)) k), (D, baObj arr)] by
      exact inner k 0 vj arr (by omega) hsz hJ (fun j' h => absurd h (Nat.not_lt_zero _))
    clear l8 hJ hsz
    intro jj
    induction jj with
    | zero =>
      intro j vj arr hj hsz hJ hI
      obtain rfl : j = k := by omega
      refine KrsRest.zero fun h9 tk9 F9 N9 => ?_
      dsimp only
      refine wpAny_execs_nil ?_
      refine UnrEnd.intro F9 N9 [(D, baObj arr)] (fun p hp => hp) ?_ (ih (i + 1) _ _ arr (by omega) hsz (swap_next hJ hI))
      intro p hp
      obtain rfl := List.mem_singleton.mp hp
      exact Nat.ne_of_lt hDI
    | succ jj ih2 =>
      intro j vj arr hj hsz hJ hI
      refine KrsRest.succ (v := (j : Int)) (by omega) fun t9 h9 tk9 F9 N9 => ?_
      have F10 : Fr s.heap L' h9 (up (up (up (up (up (fun _ => none) (PySem.Str.ofString "data") (some (.bytes b t))) (PySem.Str.ofString "width") (some (.int k u))) (PySem.Str.ofString "swapped_data") (some (.ref D))) (PySem.Str.ofString "i") (some (.int ((i : Int) * k) t5))) (PySem.Str.ofString "j") (some (.int (j : Int) t9))) := by
        rw [← up_up (v := vj)]
        exact F9
      clear F9
      have hlt : i * k + j < b.size := by
        rw [hb]
        have : (i + 1) * k ≤ p0 * k := Nat.mul_le_mul_right k (by omega)
        rw [Nat.add_mul] at this
        omega
      have hltk : i * k + k ≤ b.size := by
        rw [hb]
        have : (i + 1) * k ≤ p0 * k := Nat.mul_le_mul_right k (by omega)
        rw [Nat.add_mul] at this
        omega
      have hP : (i : Int) * (k : Int) = ((i * k : Nat) : Int) := by rw [Int.natCast_mul]
      k_steps
      refine subscriptTail_builtin (typeIs_bytes _ _ _) FB.slot_bytes_getitem.lookup (getItem_bytes (l := b.toList) (by rw [Array.length_toList]; omega) (by rw [hP]; omega) (by rw [hP, Array.length_toList]; omega) ?_)
      k_steps
      have eIdx : ((i : Int) * (k : Int) + (k : Int) - 1 - (j : Int)).toNat = i * k + (k - 1 - j) := by rw [hP]; omega
      have eB : ((i : Int) * (k : Int) + (j : Int)).toNat = i * k + j := by rw [hP]; omega
      have hw := swap_step (i := i) (j := j) (arr := arr) (b := b) (by omega) hsz (by rw [hsz]; exact hltk) hJ hI
      refine setba_K (D := D) (b := arr) (by assumption) (by assumption) (.tail (Nat.ne_of_gt (Nat.lt_trans hDI hII)) (.tail (Nat.ne_of_gt hDI) (.head (by intro p hp; cases hp)))) (by rw [hsz, sizeLine_eq]; omega) (by rw [hP]; omega) (by rw [hP]; omega) (by rw [hP, hsz]; omega) (Int.natCast_nonneg _) (by have := (b.toList.getD (i * k + j) 0).toNat_lt; rw [eB]; omega) fun h10 F11 N11 => ?_
      refine wpAny_execs_nil ?_
      rw [eIdx, eB, u8_back] at N11
      refine UnrEnd.intro F11 N11 [(I, krsIt (0 + ((i + 1 : Nat) : Int) * (k : Int)) ((p0 : Int) - ((i + 1 : Nat) : Int)) k), (D, baObj (arr.setIfInBounds (i * k + (k - 1 - j)) (b.toList.getD (i * k + j) 0)))] (fun p hp => hp) ?_ (ih2 (j + 1) _ _ (by omega) (by rw [Array.size_setIfInBounds]; exact hsz) hw.1 hw.2)
      intro p hp
      rcases List.mem_cons.mp hp with rfl | hp
      · exact Nat.ne_of_lt hII
      · obtain rfl := List.mem_singleton.mp hp
        exact Nat.ne_of_lt (Nat.lt_trans hDI hII)

end Mine
end
section
open PySem PySem.W PySem.Calls PyProof.Rows
namespace Mine
theorem mkS_len (l : List Nat) : (mkS l).length = l.length := by simp [mkS, PySem.Str.length]
theorem mkS_inj {a b : List Nat} (h : mkS a = mkS b) : a = b := by
  have := congrArg (fun s : PySem.Str => s.cps.toList) h
  simpa [mkS] using this
theorem mkS_app (a b : List Nat) : mkS a ++ mkS b = mkS (a ++ b) := by
  apply PySem.Str.ext'
  rw [PySem.Str.cps_append]
  simp [mkS]
theorem slice_from {l : List Nat} {i : Int} (h0 : 0 ≤ i) (h1 : i ≤ l.length) : PySem.Txt.slice (mkS l) (some i) none = mkS (l.drop i.toNat) := by
  rw [PyProof.Rows.slice_from_eq (b := (l.length : Int)) h0 (by rw [mkS_len]; exact h1) (by rw [mkS_len])]
  unfold mkS
  congr 2
  show (l.drop i.toNat).take _ = _
  rw [List.take_of_length_le]
  rw [List.length_drop]; omega
theorem slice_to {l : List Nat} {j : Int} (h0 : 0 ≤ j) (h1 : j ≤ l.length) : PySem.Txt.slice (mkS l) none (some j) = mkS (l.take j.toNat) := by
  rw [eq_of_beq (PyProof.Rows.slice_closes_to (x := mkS l) (j := j) ⟨h0, by simpa [mkS] using h1⟩)]
  unfold mkS
  congr 2
  show (l.drop 0).take _ = _
  rw [List.drop_zero]
  congr 1
  omega
end Mine
end
section
open PySem PySem.W PySem.Calls PyProof.Rows
set_option maxRecDepth 100000
namespace Mine

local macro_rules | `(tactic| walk_at "pyIter ref") => `(tactic| (k_here; (with_reducible show wpAny _ _ (pyIter (Value.ref _)) (fun it s₂ => LoopAtV _ _ _ _ _ _ _ _ _ it s₂) _ _); refine Hold.mk ?_))
local macro_rules | `(tactic| walk_at "getMethod str") => `(tactic| ((with_reducible show wpAny _ _ (getMethod (Value.str _ _) (PySem.Str.ofString "encode") _) _ _ _); refine meth_encode ?_))
local macro_rules | `(tactic| walk_at "call builtin:str.encode") => `(tactic| ((with_reducible show wpAny _ _ (call (Value.builtin "str.encode") [Value.str _ _, Value.str _ _]) _ _ _); refine call_encode (by assumption) (by assumption) (by assumption) ?_; intro t' k'))
local macro_rules | `(tactic| walk_at "call builtin:bytes.decode") => `(tactic| ((with_reducible show wpAny _ _ (call (Value.builtin "bytes.decode") [Value.bytes _ _, Value.str _ _]) _ _ _); refine call_decode (by assumption) (by assumption) (by assumption) ?_; intro t' k'; (try rw [back_of (by assumption)])))
local macro_rules | `(tactic| walk_at "exec While") => `(tactic| (k_here; (with_reducible show wpAny _ _ (exec (Stmt.While _ _ _ _) _) _ _ _); refine Hold.mk ?_))
local macro_rules | `(tactic| walk_at "call ref") => `(tactic| ((with_reducible show wpAny _ _ (call (Value.ref 35) [Value.str _ _, Value.str _ _]) _ _ _); (rename Fr _ _ _ _ => lF); (rename News _ _ _ _ => lN); (k_dflt (refine' (strcoll_c _ _ _ _ _ _ _ _) _ _ _ _ _ _ _ _ _ _ _ _ _ _ _ _ ?k1 ?k2 ?k3 ?k5 ?kK ?kp ?kd ?ku ?kR; (case k1 => k_asm); (case k2 => k_asm); (case k3 => k_asm); (case k5 => k_asm); (case kK => exact rfl); (case kp => trivial); (case kd => ktr_room); (case ku => ktr_units); k_whole)); intro r9 h9 tk9 k9 p9; (obtain ⟨i9, t9, e8, e9⟩ := p9); (subst e8); (have F9 := Fr.grownK lF k9); (have N9 := News.keeps lN k9); clear lF lN))

set_option maxHeartbeats 8000000 in
theorem closed_c (w : World) (mean : ExcName → Option Value) (mg mb : PySem.Str → Option Value) (l : List Nat) (t : Tok) (k : Nat) (u : Tok) (p0 : Nat) (hk0 : 0 < k) (hk3 : k ≤ 3) (hp : l.length = p0 * k) (h0 : 0 < l.length) (hz : l.length ≤ 2000) (hl : ∀ c ∈ l, c < 128) :
    CtrF w mean mg mb 61 8 (fun _ => True) [.str (mkS l) t, .int k u] (fun r _ _ => ∃ (c : Nat) (tk : Tok), c ≤ p0 ∧ l.drop (c * k) = l.reverse.take (l.length - c * k) ∧ (∀ c', c' < c → l.drop (c' * k) ≠ l.reverse.take (l.length - c' * k)) ∧ r = .str (mkS (l ++ l.reverse.drop (l.length - c * k))) tk) := by
  w_top off
  refine fill ?_
  unfold CtrF KK
  k_fill
  intro _ _ dp un cn cs a ccd cl outer A₀ base h₀ L m s Q E B F X T hk hpre hd hu hret
  refine wpF_call ?_
  k_dflt (refine' code_defF0 (binds := [(PySem.Str.ofString "text", .str (mkS l) t), (PySem.Str.ofString "width", .int k u)]) ?k1 ?k2 ?k3 ?k5 ?kA ?kF ?kK ?k6 ?k7 ?k8 ?k9 ?kB ?_ ?c2 ?c3 ?c4 ?c5; (case kA => exact rfl); (case kF => exact rfl); (case kK => assumption); (case k1 => k_asm); (case k2 => k_asm); (case k3 => k_asm); (case k5 => k_asm); (case k6 => k_is); (case k7 => k_is); (case k8 => ktr_room); (case k9 => exact BindsTo.of_eq rfl); (case c5 => decide); (case kB => exact locs rfl); (case c2 => exact rfl); (case c3 => exact rfl); (case c4 => exact rfl); k_whole; intro L' h' F' N' B' X' T'; (simp only [List.foldl_cons, List.foldl_nil, List.length_cons, List.length_nil] at F' ⊢); (try k_fold))
  have h128 : ∀ c ∈ (mkS l).cps.toList, c < 128 := hl
  have hpos : 0 < (mkS l).cps.size := by simpa [mkS] using h0
  have hsz : (mkS l).cps.size ≤ sizeLine := by rw [sizeLine_eq]; simp [mkS]; omega
  have hlen : (mkS l).length = l.length := by simp [mkS, PySem.Str.length]
  have hlenR : (mkS l.reverse).length = l.length := by simp [mkS, PySem.Str.length]
  refine execsF_cons ?_
  refine execF_Assign ?_ (by rfl)
  refine evalF_Call ?_
  k_steps
  refine callWithF_K (by assumption) (by k_is) ?_ (by rfl) (by rfl)
  k_steps
  rename Fr _ _ _ _ => F5
  rename News _ _ _ _ => N5
  have hbz : ((mkS l).cps.map Nat.toUInt8).size = 1 * (mkS l).length := by rw [Nat.one_mul]; simp [mkS, PySem.Str.length]
  have hbl : ((mkS l).cps.map Nat.toUInt8).size = l.length := by simp [mkS]
  have hlen0 : 0 < (mkS l).length := by rw [hlen]; exact h0
  (k_dflt (refine' (bs_c w mean mg mb ((mkS l).cps.map Nat.toUInt8) _ (mkS l).length _ 1 hlen0 hbz (by rw [hbl]; omega) (by rw [hlen]; omega)) _ _ _ _ _ _ _ _ _ _ _ _ _ _ _ _ ?k1 ?k2 ?k3 ?k5 ?kK ?kp ?kd ?ku ?kR; (case k1 => k_asm); (case k2 => k_asm); (case k3 => k_asm); (case k5 => k_asm); (case kK => exact rfl); (case kp => trivial); (case kd => ktr_room); (case ku => ktr_units); k_whole)); intro r9 h9 tk9 k9 p9
  obtain ⟨c9, t9, rfl, hc1, hc2⟩ := p9
  obtain rfl := rev_of hc1 hc2
  have F6 := Fr.grownK F5 k9
  have N6 := News.keeps N5 k9
  clear F5 N5
  refine wpF_of_any ?_
  k_steps
  refine wpF_of_any ?_
  have hdl : ∀ x ∈ l.reverse, x < 128 := fun x hx => hl x (List.mem_reverse.mp hx)
  have hd1 := low_of hdl
  have hd2 : 0 < ((l.reverse.map Nat.toUInt8).toArray).size := by simpa using h0
  have hd3 : ((l.reverse.map Nat.toUInt8).toArray).size ≤ sizeLine := by rw [sizeLine_eq]; simp; omega
  k_steps
  rename Fr _ _ _ _ => F7
  rename News _ _ _ _ => N7
  refine Hold.in ?_
  refine While_inv (fun n m1 n1 => ∃ (c : Nat) (tk tm : Tok), n = p0 - c ∧ c ≤ p0 ∧ (∀ c', c' < c → l.drop (c' * k) ≠ l.reverse.take (l.length - c' * k)) ∧ n1 = [] ∧
    m1 = up (up (up (up (up (fun _ => none) (PySem.Str.ofString "text") (some (.str (mkS l) t))) (PySem.Str.ofString "width") (some (.int k u))) (PySem.Str.ofString "turned") (some (.bytes ((l.reverse.map Nat.toUInt8).toArray) t9))) (PySem.Str.ofString "mirror") (some (.str (mkS l.reverse) tm))) (PySem.Str.ofString "cut") (some (.int ((c * k : Nat) : Int) tk))) (n₀ := p0) F7 N7 ?_ ?_
  · exact ⟨0, _, _, by omega, by omega, fun c' h => absurd h (Nat.not_lt_zero _), rfl, by rw [Nat.zero_mul]; rfl⟩
  clear F7 N7
  rintro n m1 n1 h1 tk1 F8 N8 ⟨c, tk, tm, rfl, hc, hmin, rfl, rfl⟩
  have hck : c * k ≤ (mkS l).length := by rw [hlen, hp]; exact Nat.mul_le_mul_right k hc
  have hck0 : (0 : Int) ≤ ((mkS l).length : Int) - ((c * k : Nat) : Int) := by omega
  have eS1 : PySem.Txt.slice (mkS l) (some ((c * k : Nat) : Int)) none = mkS (l.drop (c * k)) := by
    rw [slice_from (by omega) (by rw [hlen] at hck; omega), Int.toNat_natCast]
  have eJ : (((mkS l).length : Int) - ((c * k : Nat) : Int)).toNat = l.length - c * k := by rw [hlen]; omega
  have eS2 : PySem.Txt.slice (mkS l.reverse) none (some (((mkS l).length : Int) - ((c * k : Nat) : Int))) = mkS (l.reverse.take (l.length - c * k)) := by
    rw [slice_to hck0 (by rw [List.length_reverse, hlen]; omega), eJ]
  have eS3 : PySem.Txt.slice (mkS l.reverse) (some (((mkS l).length : Int) - ((c * k : Nat) : Int))) none = mkS (l.reverse.drop (l.length - c * k)) := by
    rw [slice_from hck0 (by rw [List.length_reverse, hlen]; omega), eJ]
  k_steps
  · rename Fr _ _ _ _ => F12
    rename (_ ↔ _) => e9
    rename (_ ≠ (0 : Int)) => hne
    rename (((c * k : Nat) : Int) < _) => hlt
    rw [eS1, eS2] at e9
    have hne' : l.drop (c * k) ≠ l.reverse.take (l.length - c * k) := fun e => hne (e9.mpr (congrArg mkS e))
    have hcp : c < p0 := by
      have h1 : c * k < p0 * k := by rw [hlen, hp] at hlt; omega
      exact Nat.lt_of_mul_lt_mul_right h1
    refine WhileStep.intro (n' := p0 - (c + 1)) F12 (News.nil) (by omega) ⟨c + 1, ?tk, tm, rfl, hcp, ?hm, rfl, ?he⟩
    case he =>
      refine Eq.trans up_up ?_
      rw [Nat.add_mul, Nat.one_mul, Int.natCast_add]
    case hm =>
      intro c' hc'
      by_cases e : c' = c
      · subst e; exact hne'
      · exact hmin c' (by omega)
  · rename (_ ↔ _) => e9
    rename (_ = (0 : Int)) => heq
    rw [eS1, eS2] at e9
    refine hret _ _ _ (Fr.keep (by assumption)) ⟨c, ?ta, hc, mkS_inj (e9.mp heq), hmin, ?hea⟩
    case hea => rw [eS3, mkS_app]
  · rename (¬ ((c * k : Nat) : Int) < _) => hlt
    have hcp : c * k = l.length := by rw [hlen] at hlt hck; omega
    refine hret _ _ _ (Fr.keep (by assumption)) ⟨c, ?tb, hc, ?hd, hmin, ?heb⟩
    case heb => rw [eS3, mkS_app]
    case hd => rw [hcp, List.drop_length, Nat.sub_self, List.take_zero]

end Mine
end
section
open PySem PySem.W PySem.Calls PyProof.Rows
namespace Mine
def mu (a b : Int) : List Int := if b = a then [b] else [a, b]
def muL (a : Int) (w : List Int) : List Int := w.flatMap (mu a)
def psi : List Int → List Int
  | [] => []
  | a :: v => muL a (psi v) ++ [a]
def theta (a : Int) : Int := if a = 0 then 1 else if a = 1 then 0 else if a = 2 then 3 else if a = 3 then 2 else a
def nu (b : Int) : List Int := if theta b = b then [b] else [b, theta b]
def nuL (w : List Int) : List Int := w.flatMap nu
theorem muL_snoc (a : Int) (w : List Int) (b : Int) : muL a (w ++ [b]) = muL a w ++ mu a b := by simp [muL]
theorem muL_cons (a : Int) (b : Int) (w : List Int) : muL a (b :: w) = mu a b ++ muL a w := by simp [muL]
theorem nuL_snoc (w : List Int) (b : Int) : nuL (w ++ [b]) = nuL w ++ nu b := by simp [nuL]
theorem muL_len (a : Int) : ∀ w : List Int, (muL a w).length ≤ 2 * w.length
  | [] => by simp [muL]
  | b :: w => by
    have := muL_len a w
    rw [muL_cons, List.length_append, List.length_cons]
    have : (mu a b).length ≤ 2 := by unfold mu; split <;> simp
    omega
theorem psi_len : ∀ (v : List Int), (psi v).length < 2 ^ v.length
  | [] => by simp [psi]
  | a :: v => by
    have h1 := psi_len v
    have h2 := muL_len a (psi v)
    simp only [psi, List.length_append, List.length_cons, List.length_nil, Nat.pow_succ]
    omega
theorem psi_len6 {v : List Int} (h : v.length ≤ 6) : (psi v).length ≤ 63 := by
  have h1 := psi_len v
  have h2 : 2 ^ v.length ≤ 2 ^ 6 := Nat.pow_le_pow_right (by omega) h
  omega
theorem nuL_len : ∀ w : List Int, (nuL w).length ≤ 2 * w.length
  | [] => by simp [nuL]
  | b :: w => by
    have := nuL_len w
    have e : nuL (b :: w) = nu b ++ nuL w := by simp [nuL]
    rw [e, List.length_append, List.length_cons]
    have : (nu b).length ≤ 2 := by unfold nu; split <;> simp
    omega
theorem up_set1 {m : PySem.Str → Option Value} {x a : PySem.Str} {v v' b : Option Value} (h : a ≠ x) : up (up (up m x v) a b) x v' = up (up m x v') a b := by
  rw [up_swap (x := a) (z := x) h, up_up]
theorem up_set2 {m : PySem.Str → Option Value} {x a c : PySem.Str} {v v' b d : Option Value} (h : a ≠ x) (h2 : c ≠ x) : up (up (up (up m x v) a b) c d) x v' = up (up (up m x v') a b) c d := by
  rw [up_swap (x := c) (z := x) h2, up_set1 h]
theorem up_set3 {m : PySem.Str → Option Value} {x a c e : PySem.Str} {v v' b d f : Option Value} (h : a ≠ x) (h2 : c ≠ x) (h3 : e ≠ x) : up (up (up (up (up m x v) a b) c d) e f) x v' = up (up (up (up m x v') a b) c d) e f := by
  rw [up_swap (x := e) (z := x) h3, up_set2 h h2]
theorem off_cls {h₀ h' : Heap} {L I : Addr} {it : Obj} {all : List (Addr × Obj)} (N : News h₀ L h' all) (hI : (I, it) ∈ all) (hit : it.cls = .type "list_iterator") {p : Addr × Obj} (hp : p ∈ all) (hc : p.2.cls = .type "list") : p.1 ≠ I := by
  intro e
  have h1 := (N _ hp).1
  have h2 := (N _ hI).1
  rw [e] at h1
  have h3 : some p.2 = some it := h1.symm.trans h2
  have h4 : p.2 = it := by injection h3
  rw [h4, hit] at hc
  exact absurd hc (by decide)
theorem turn_end {h₀ : Heap} {L I X Y f D : Addr} {it oX oY oF oD : Obj} {tl : List (Addr × Obj)} {rest : (PySem.Str → Option Value) → List (Addr × Obj) → Prop} {s₁ : Shared} {h' : Heap} {tk : Nat} {m' : PySem.Str → Option Value}
    (F : Fr h₀ L h' m') (N : News h₀ L h' ((X, oX) :: (Y, oY) :: (f, oF) :: (I, it) :: (D, oD) :: tl)) (hit : it.cls = .type "list_iterator") (hX : oX.cls = .type "list") (hD : oD.cls = .type "list") (r : rest m' [(D, oD), (X, oX)]) :
    UnrEnd h₀ L s₁ I it rest { s₁ with heap := h', toks := tk } := by
  have hI : (I, it) ∈ (X, oX) :: (Y, oY) :: (f, oF) :: (I, it) :: (D, oD) :: tl := .tail _ (.tail _ (.tail _ (.head _)))
  have mX : (X, oX) ∈ (X, oX) :: (Y, oY) :: (f, oF) :: (I, it) :: (D, oD) :: tl := .head _
  have mD : (D, oD) ∈ (X, oX) :: (Y, oY) :: (f, oF) :: (I, it) :: (D, oD) :: tl := .tail _ (.tail _ (.tail _ (.tail _ (.head _))))
  refine UnrEnd.intro F N [(D, oD), (X, oX)] ?_ ?_ r
  · intro p hp
    simp only [List.mem_cons, List.not_mem_nil, or_false] at hp
    rcases hp with rfl | rfl | rfl <;> assumption
  · intro p hp
    simp only [List.mem_cons, List.not_mem_nil, or_false] at hp
    rcases hp with rfl | rfl
    · exact off_cls N hI hit mD hD
    · exact off_cls N hI hit mX hX
theorem turn_inner {h₀ : Heap} {L I f D I2 Wd : Addr} {it it2 oF oD oW : Obj} {rest : (PySem.Str → Option Value) → List (Addr × Obj) → Prop} {s₁ : Shared} {h' : Heap} {tk : Nat} {m' : PySem.Str → Option Value}
    (F : Fr h₀ L h' m') (N : News h₀ L h' [(I2, it2), (f, oF), (I, it), (D, oD), (Wd, oW)]) (hit : it2.cls = .type "list_iterator") (hF : oF.cls = .type "list") (hD : oD.cls = .type "list") (hW : oW.cls = .type "list") (hI : I ≠ I2)
    (r : rest m' [(f, oF), (I, it), (D, oD), (Wd, oW)]) :
    UnrEnd h₀ L s₁ I2 it2 rest { s₁ with heap := h', toks := tk } := by
  refine UnrEnd.intro F N [(f, oF), (I, it), (D, oD), (Wd, oW)] (fun p hp => hp) ?_ r
  intro p hp
  simp only [List.mem_cons, List.not_mem_nil, or_false] at hp
  rcases hp with rfl | rfl | rfl | rfl
  · exact off_cls N (.head _) hit (.tail _ (.head _)) hF
  · exact hI
  · exact off_cls N (.head _) hit (.tail _ (.tail _ (.tail _ (.head _)))) hD
  · exact off_cls N (.head _) hit (.tail _ (.tail _ (.tail _ (.tail _ (.head _))))) hW
theorem turn_two {h₀ : Heap} {L D I2 Wd : Addr} {it2 oD oW : Obj} {rest : (PySem.Str → Option Value) → List (Addr × Obj) → Prop} {s₁ : Shared} {h' : Heap} {tk : Nat} {m' : PySem.Str → Option Value}
    (F : Fr h₀ L h' m') (N : News h₀ L h' [(I2, it2), (D, oD), (Wd, oW)]) (hit : it2.cls = .type "list_iterator") (hD : oD.cls = .type "list") (hW : oW.cls = .type "list")
    (r : rest m' [(D, oD), (Wd, oW)]) :
    UnrEnd h₀ L s₁ I2 it2 rest { s₁ with heap := h', toks := tk } := by
  refine UnrEnd.intro F N [(D, oD), (Wd, oW)] (fun p hp => hp) ?_ r
  intro p hp
  simp only [List.mem_cons, List.not_mem_nil, or_false] at hp
  rcases hp with rfl | rfl
  · exact off_cls N (.head _) hit (.tail _ (.head _)) hD
  · exact off_cls N (.head _) hit (.tail _ (.tail _ (.head _))) hW
theorem psi_mem : ∀ {v : List Int} {b : Int}, b ∈ psi v → b ∈ v
  | [], b, h => by simp [psi] at h
  | a :: v, b, h => by
    simp only [psi, muL, List.mem_append, List.mem_flatMap, List.mem_singleton] at h
    rcases h with ⟨c, hc, hb⟩ | rfl
    · unfold mu at hb
      have := psi_mem hc
      split at hb
      · rename_i e
        have hb' : b = c := by simpa using hb
        subst hb'
        exact .tail _ this
      · have hb' : b = a ∨ b = c := by simpa using hb
        rcases hb' with rfl | rfl
        · exact .head _
        · exact .tail _ this
    · exact .head _
theorem cell_at {cvs : List Value} {cells : List (List Nat)} (h : StrsAre cvs (cells.map mkS)) (h6 : cells.length = 6) {b : Int} (hb0 : 0 ≤ b) (hb : b < 6) : ∃ t, cvs[b.toNat]? = some (.str (mkS (cells.getD b.toNat [])) t) := by
  have e : (cells.map mkS)[b.toNat]? = some (mkS (cells.getD b.toNat [])) := by
    rw [List.getElem?_map, List.getD_eq_getElem?_getD, List.getElem?_eq_getElem (by omega)]
    rfl
  obtain ⟨t, ht⟩ := h.get _ _ e
  exact ⟨t, ht⟩
theorem theta_xor {b : Int} (h0 : 0 ≤ b) (h4 : b < 4) : Builtin.bitXor b 1 = theta b ∧ theta b ≠ b ∧ 0 ≤ theta b ∧ theta b < 6 := by
  have : b = 0 ∨ b = 1 ∨ b = 2 ∨ b = 3 := by omega
  rcases this with rfl | rfl | rfl | rfl <;> exact ⟨rfl, by decide, by decide, by decide⟩
theorem theta_fix {b : Int} (h4 : ¬ b < 4) : theta b = b := by
  unfold theta
  rw [if_neg (by omega), if_neg (by omega), if_neg (by omega), if_neg (by omega)]
def wr (cells : List (List Nat)) (w : List Int) : List Nat := w.flatMap (fun b => cells.getD b.toNat [])
theorem wr_app (cells : List (List Nat)) (u v : List Int) : wr cells (u ++ v) = wr cells u ++ wr cells v := by simp [wr]
theorem wr_one (cells : List (List Nat)) (b : Int) : wr cells [b] = cells.getD b.toNat [] := by simp [wr]
theorem cell_len {cells : List (List Nat)} (h : ∀ c ∈ cells, c.length ≤ 3) (n : Nat) : (cells.getD n []).length ≤ 3 := by
  rw [List.getD_eq_getElem?_getD]
  rcases e : cells[n]? with _ | c
  · simp
  · exact h c (List.mem_of_getElem? e)
theorem wr_len {cells : List (List Nat)} (h : ∀ c ∈ cells, c.length ≤ 3) : ∀ w : List Int, (wr cells w).length ≤ 3 * w.length
  | [] => by simp [wr]
  | b :: w => by
    have := wr_len h w
    have e : wr cells (b :: w) = cells.getD b.toNat [] ++ wr cells w := by simp [wr]
    have := cell_len h b.toNat
    rw [e, List.length_append, List.length_cons]
    omega
end Mine
end
section
open PySem PySem.W PySem.Calls PyProof.Rows
set_option maxRecDepth 100000
namespace Mine

local macro_rules | `(tactic| walk_at "exec For Name Subscript cons nil") => `(tactic| (k_here; (with_reducible show wpAny _ _ (exec (Stmt.For _ _ _ [] _) _) _ _ _); refine Hold.mk ?_))
local macro_rules | `(tactic| walk_at "exec For Name Name cons nil") => `(tactic| (k_here; (with_reducible show wpAny _ _ (exec (Stmt.For _ _ _ [] _) _) _ _ _); refine Hold.mk ?_))
local macro_rules | `(tactic| walk_at "pyIter ref") => `(tactic| (k_here; (with_reducible show wpAny _ _ (pyIter (Value.ref _)) (fun it s₂ => LoopAtV _ _ _ _ _ _ _ _ _ it s₂) _ _); refine Hold.mk ?_))
local macro_rules | `(tactic| walk_at "UnrEnd") => `(tactic| (k_here; refine Hold.mk ?_))
local macro_rules | `(tactic| walk_at "for_in") => `(tactic| (refine Hold.in ?_; (rename Fr _ _ _ _ => lF'); (with_unfolding_all refine' For_invVF lF' ?k1 ?k2 ?_; (case k1 => exact rfl); (case k2 => exact rfl); k_whole)))

set_option maxHeartbeats 8000000 in
theorem written_c (w : World) (mean : ExcName → Option Value) (mg mb : PySem.Str → Option Value) (l lc : Addr) (vs cvs : List Value) (ns : List Int) (hv : IntsAre vs ns) (hn : vs.length ≤ 6) (cells : List (List Nat)) (hcs : StrsAre cvs (cells.map mkS)) (hr : ∀ x ∈ ns, 0 ≤ x ∧ x < 6) (h6 : cells.length = 6) (h3 : ∀ c ∈ cells, c.length ≤ 3) :
    Ctr w mean mg mb 68 4 (fun h => h.IsList l vs.toArray ∧ h.IsList lc cvs.toArray) [.ref l, .ref lc] (fun r _ _ => ∃ tk : Tok, r = .str (mkS (wr cells (nuL (psi ns)))) tk) := by
  w_top off
  refine fill ?_
  unfold Ctr KK
  k_fill
  intro _ _ dp un cn cs a ccd cl outer A₀ base h₀ L m s Q E B F X T hk hpre hd hu hret
  refine wpAny_call ?_
  k_dflt (refine' code_def0 (binds := [(PySem.Str.ofString "letters", .ref l), (PySem.Str.ofString "cells", .ref lc)]) ?k1 ?k2 ?k3 ?k5 ?kA ?kF ?kK ?k6 ?k7 ?k8 ?k9 ?kB ?_ ?c2 ?c3 ?c4 ?c5; (case kA => exact rfl); (case kF => exact rfl); (case kK => assumption); (case k1 => k_asm); (case k2 => k_asm); (case k3 => k_asm); (case k5 => k_asm); (case k6 => k_is); (case k7 => k_is); (case k8 => ktr_room); (case k9 => exact BindsTo.of_eq rfl); (case c5 => decide); (case kB => exact locs rfl); (case c2 => exact rfl); (case c3 => exact rfl); (case c4 => exact rfl); k_whole; intro L' h' F' N' B' X' T'; (simp only [List.foldl_cons, List.foldl_nil, List.length_cons, List.length_nil] at F' ⊢); (try k_fold))
  obtain ⟨hL, hC⟩ := hpre
  k_steps
  walk_at "for_in"
  k_steps
  rename_i W0 _ _ _ D ws _ F5 N5 hI5 _ lWD
  refine Hold.in ?_
  refine iter_listUnr (by rfl) F5 N5 (.head _) rfl rfl ?_
  intro I l5
  have hDI : @LT.lt Nat _ D I := l5 _ (.head _)
  have hWI : @LT.lt Nat _ W0 I := l5 _ (.tail _ (.head _))
  have lWD' : @LT.lt Nat _ W0 D := lWD
  clear F5 N5 l5
  suffices outer : ∀ (us : List Value) (rs : List Int), IntsAre us rs → ∀ (d : List Int) (Wd nW : Nat) (wv : List Value) (vL vF vO : Option Value), rs.reverse ++ d = ns → IntsAre wv (psi d) →
      ListRest _ _ _ _ _ _ _ _ _ _ I (D, PySem.W.listOf ws.toArray 0) us (up (up (up (up (up (up (fun _ => none) (PySem.Str.ofString "letters") (some (.ref l))) (PySem.Str.ofString "cells") (some (.ref lc))) (PySem.Str.ofString "word") (some (.ref Wd))) (PySem.Str.ofString "letter") (vL)) (PySem.Str.ofString "fresh") (vF)) (PySem.Str.ofString "other") (vO)) [(D, PySem.W.listOf ws.toArray 0), (Wd, PySem.W.listOf wv.toArray nW)] by
    have h9 := outer ws ns.reverse hI5 [] W0 0 [] none none none (by simp) .nil
    have m0 : ∀ m : PySem.Str → Option Value, up (up (up m (PySem.Str.ofString "letter") (m (PySem.Str.ofString "letter"))) (PySem.Str.ofString "fresh") (m (PySem.Str.ofString "fresh"))) (PySem.Str.ofString "other") (m (PySem.Str.ofString "other")) = m := fun m => by rw [up_self, up_self, up_self]
    rw [show up (up (up (up (up (up (fun _ => none) (PySem.Str.ofString "letters") (some (.ref l))) (PySem.Str.ofString "cells") (some (.ref lc))) (PySem.Str.ofString "word") (some (.ref W0))) (PySem.Str.ofString "letter") (none)) (PySem.Str.ofString "fresh") (none)) (PySem.Str.ofString "other") (none) = up (up (up (fun _ => none) (PySem.Str.ofString "letters") (some (.ref l))) (PySem.Str.ofString "cells") (some (.ref lc))) (PySem.Str.ofString "word") (some (.ref W0)) from m0 _] at h9
    exact h9
  intro us rs hus
  induction hus with
  | nil =>
    intro d Wd nW wv vL vF vO hd hw
    obtain rfl : d = ns := by simpa using hd
    refine ListRest.zero fun h5 tk5 F5 N5 => ?_
    dsimp only
    k_steps
    walk_at "for_in"
    k_steps
    rename Fr _ _ _ _ => F7
    rename News _ _ _ _ => N7
    refine Hold.in ?_
    refine iter_listUnr (by rfl) F7 N7 (.tail _ (.head _)) rfl rfl ?_
    intro I3 l8
    have hDI3 : @LT.lt Nat _ D I3 := l8 _ (.head _)
    have hWI3 : @LT.lt Nat _ Wd I3 := l8 _ (.tail _ (.head _))
    clear F7 N7 l8
    suffices last : ∀ (us3 : List Value) (rs3 : List Int), IntsAre us3 rs3 → ∀ (done : List Int) (txt : List Nat) (tx : Tok) (vL : Option Value), psi d = done ++ rs3 → txt = wr cells (nuL done) →
        ListRest _ _ _ _ _ _ _ _ _ _ I3 (Wd, PySem.W.listOf wv.toArray nW) us3 (up (up (up (up (up (up (up (fun _ => none) (PySem.Str.ofString "letters") (some (.ref l))) (PySem.Str.ofString "cells") (some (.ref lc))) (PySem.Str.ofString "word") (some (.ref Wd))) (PySem.Str.ofString "letter") (vL)) (PySem.Str.ofString "fresh") (vF)) (PySem.Str.ofString "other") (vO)) (PySem.Str.ofString "text") (some (.str (mkS txt) tx))) [(D, PySem.W.listOf ws.toArray 0), (Wd, PySem.W.listOf wv.toArray nW)] by
      exact last wv (psi d) hw [] [] _ vL rfl rfl
    intro us3 rs3 hus3
    induction hus3 with
    | nil =>
      intro done txt tx vL hd3 htxt
      rw [List.append_nil] at hd3
      refine ListRest.zero fun h7 tk7 F7 N7 => ?_
      dsimp only
      subst hd3
      k_steps
      dsimp only
      exact hret _ _ _ (Fr.keep (by assumption)) ⟨_, by rw [htxt]⟩
    | cons b tB hus3 ih3 =>
      intro done txt tx vL hd3 htxt
      refine ListRest.succ fun it3 h7 tk7 hit3 F7 N7 => ?_
      have F8 : Fr s.heap L' h7 (up (up (up (up (up (up (up (fun _ => none) (PySem.Str.ofString "letters") (some (.ref l))) (PySem.Str.ofString "cells") (some (.ref lc))) (PySem.Str.ofString "word") (some (.ref Wd))) (PySem.Str.ofString "letter") (some (.int b tB))) (PySem.Str.ofString "fresh") (vF)) (PySem.Str.ofString "other") (vO)) (PySem.Str.ofString "text") (some (.str (mkS txt) tx))) := by
        rw [← up_set3 (v := vL) (by decide) (by decide) (by decide)]
        exact F7
      clear F7
      obtain ⟨hb0, hb6⟩ := hr b (psi_mem (by rw [hd3]; simp))
      obtain ⟨tc, htc⟩ := cell_at hcs h6 hb0 hb6
      have hcl : (mkS (cells.getD b.toNat [])).length ≤ 3 := by rw [mkS_len]; exact cell_len h3 _
      have htl : (mkS txt).length ≤ 800 := by
        have h1 := wr_len h3 (nuL done)
        have h2 := nuL_len done
        have h4 := congrArg List.length hd3
        have h5 := psi_len6 (v := d) (by rw [← hv.length]; exact hn)
        rw [List.length_append] at h4
        rw [mkS_len, htxt]
        omega
      k_steps
      refine item_listL (Fr.lst (by assumption) hC) hb0 (by omega) htc ?_
      k_steps
      · rename (b < 4) => hb4
        obtain ⟨e1, e2, e3, e4⟩ := theta_xor hb0 hb4
        obtain ⟨tc2, htc2⟩ := cell_at hcs h6 e3 e4
        refine item_listL (Fr.lst (by assumption) hC) (by rw [e1]; exact e3) (by rw [e1]; omega) (by rw [e1]; exact htc2) ?_
        have htl2 : (mkS txt ++ mkS (cells.getD b.toNat [])).length ≤ 803 := by
          rw [mkS_len] at htl hcl
          rw [mkS_app, mkS_len, List.length_append]
          omega
        have hcl2 : (mkS (cells.getD (theta b).toNat [])).length ≤ 3 := by rw [mkS_len]; exact cell_len h3 _
        k_steps
        rename Fr _ _ _ _ => F9
        rename News _ _ _ _ => N9
        refine Hold.in ?_
        refine turn_two F9 N9 hit3 rfl rfl ⟨.tail _ (.head _), ?_⟩
        have h9 := fun tx => ih3 (done ++ [b]) (txt ++ cells.getD b.toNat [] ++ cells.getD (theta b).toNat []) tx (some (.int b tB)) (by rw [hd3]; simp) (by rw [htxt, nuL_snoc, wr_app, nu, if_neg e2]; simp [wr])
        refine Eq.mp (congrArg (fun m => ListRest _ _ _ _ _ _ _ _ _ _ _ _ _ m _) ?_) (h9 ?tq)
        refine Eq.trans ?_ (Eq.trans up_up up_up).symm
        rw [← mkS_app, ← mkS_app]
      · rename (¬ b < 4) => hb4
        rename Fr _ _ _ _ => F9
        rename News _ _ _ _ => N9
        refine Hold.in ?_
        refine turn_two F9 N9 hit3 rfl rfl ⟨.tail _ (.head _), ?_⟩
        have h9 := fun tx => ih3 (done ++ [b]) (txt ++ cells.getD b.toNat []) tx (some (.int b tB)) (by rw [hd3]; simp) (by rw [htxt, nuL_snoc, wr_app, nu, if_pos (theta_fix hb4)]; simp [wr])
        refine Eq.mp (congrArg (fun m => ListRest _ _ _ _ _ _ _ _ _ _ _ _ _ m _) ?_) (h9 ?tq2)
        refine Eq.trans ?_ up_up.symm
        rw [← mkS_app]
  | cons a tA hus ih =>
    intro d Wd nW wv vL vF vO hd hw
    refine ListRest.succ fun it h5 tk5 hit F5 N5 => ?_
    have F6 : Fr s.heap L' h5 (up (up (up (up (up (up (fun _ => none) (PySem.Str.ofString "letters") (some (.ref l))) (PySem.Str.ofString "cells") (some (.ref lc))) (PySem.Str.ofString "word") (some (.ref Wd))) (PySem.Str.ofString "letter") (some (.int a tA))) (PySem.Str.ofString "fresh") (vF)) (PySem.Str.ofString "other") (vO)) := by
      rw [← up_set2 (v := vL) (by decide) (by decide)]
      exact F5
    clear F5
    k_steps
    walk_at "for_in"
    k_steps
    rename_i f _ l9 _ F7 N7
    have hIf : @LT.lt Nat _ I f := l9.1
    have hDf : @LT.lt Nat _ D f := l9.2.1
    have hWf : @LT.lt Nat _ Wd f := l9.2.2
    refine Hold.in ?_
    refine iter_listUnr (by rfl) F7 N7 (.tail _ (.tail _ (.tail _ (.head _)))) rfl rfl ?_
    intro I2 l8
    have hfI : @LT.lt Nat _ f I2 := l8 _ (.head _)
    clear F7 N7 l8 l9
    suffices inner : ∀ (us2 : List Value) (rs2 : List Int), IntsAre us2 rs2 → ∀ (done : List Int) (nF : Nat) (fv : List Value) (vO : Option Value), psi d = done ++ rs2 → IntsAre fv (muL a done) →
        ListRest _ _ _ _ _ _ _ _ _ _ I2 (Wd, PySem.W.listOf wv.toArray nW) us2 (up (up (up (up (up (up (fun _ => none) (PySem.Str.ofString "letters") (some (.ref l))) (PySem.Str.ofString "cells") (some (.ref lc))) (PySem.Str.ofString "word") (some (.ref Wd))) (PySem.Str.ofString "letter") (some (.int a tA))) (PySem.Str.ofString "fresh") (some (.ref f))) (PySem.Str.ofString "other") (vO)) [(f, PySem.W.listOf fv.toArray nF), (I, it), (D, PySem.W.listOf ws.toArray 0), (Wd, PySem.W.listOf wv.toArray nW)] by
      have h9 := inner wv (psi d) hw [] 0 [] vO rfl .nil
      rw [← up_set1 (v := vF) (by decide)] at h9
      exact h9
    intro us2 rs2 hus2
    induction hus2 with
    | nil =>
      intro done nF fv vO hd2 hfv
      rw [List.append_nil] at hd2
      refine ListRest.zero fun h7 tk7 F7 N7 => ?_
      dsimp only
      subst hd2
      have hfl : fv.length ≤ 126 := by rw [hfv.length]; have := muL_len a (psi d); have := psi_len6 (v := d) (by have := congrArg List.length hd; rw [List.length_append, ← hv.length] at this; omega); omega
      k_steps
      rename Fr _ _ _ _ => F9
      rename News _ _ _ _ => N9
      refine Hold.in ?_
      refine turn_end F9 N9 hit rfl rfl ⟨.head _, ?hrest⟩
      refine Eq.mp (congrArg (fun m => ListRest _ _ _ _ _ _ _ _ _ _ _ _ _ m _) ?_) (ih (a :: d) _ 0 (fv ++ [Value.int a tA]) (some (.int a tA)) (some (.ref f)) vO (by rw [← hd]; simp) (hfv.append (.cons a tA .nil)))
      exact (up_set3 (by decide) (by decide) (by decide)).symm
    | cons b tB hus2 ih2 =>
      intro done nF fv vO hd2 hfv
      refine ListRest.succ fun it2 h7 tk7 hit2 F7 N7 => ?_
      have F8 : Fr s.heap L' h7 (up (up (up (up (up (up (fun _ => none) (PySem.Str.ofString "letters") (some (.ref l))) (PySem.Str.ofString "cells") (some (.ref lc))) (PySem.Str.ofString "word") (some (.ref Wd))) (PySem.Str.ofString "letter") (some (.int a tA))) (PySem.Str.ofString "fresh") (some (.ref f))) (PySem.Str.ofString "other") (some (.int b tB))) := by
        rw [← up_up (v := vO)]
        exact F7
      clear F7
      have hfl : fv.length ≤ 126 := by rw [hfv.length]; have := muL_len a done; have e := congrArg List.length hd2; rw [List.length_append] at e; have := psi_len6 (v := d) (by have := congrArg List.length hd; rw [List.length_append, ← hv.length] at this; omega); omega
      k_steps
      · rename Fr _ _ _ _ => F9
        rename News _ _ _ _ => N9
        rename (b ≠ a) => hba
        refine Hold.in ?_
        rw [show (fv.toArray.push (Value.int a tA)).push (Value.int b tB) = (fv ++ [Value.int a tA, Value.int b tB]).toArray by simp] at N9
        exact turn_inner F9 N9 hit2 rfl rfl rfl (Nat.ne_of_lt (Nat.lt_trans hIf hfI)) ⟨.tail _ (.tail _ (.tail _ (.head _))), ih2 (done ++ [b]) _ _ _ (by rw [hd2]; simp) (by rw [muL_snoc, mu, if_neg hba]; exact hfv.append (.cons a tA (.cons b tB .nil)))⟩
      · rename Fr _ _ _ _ => F9
        rename News _ _ _ _ => N9
        rename (b = a) => hba
        refine Hold.in ?_
        rw [show fv.toArray.push (Value.int b tB) = (fv ++ [Value.int b tB]).toArray by simp] at N9
        exact turn_inner F9 N9 hit2 rfl rfl rfl (Nat.ne_of_lt (Nat.lt_trans hIf hfI)) ⟨.tail _ (.tail _ (.tail _ (.head _))), ih2 (done ++ [b]) _ _ _ (by rw [hd2]; simp) (by rw [muL_snoc, mu, if_pos hba]; exact hfv.append (.cons b tB .nil))⟩

end Mine
end
section
open PySem PySem.W PySem.Calls PyProof.Rows
set_option maxRecDepth 100000
namespace Mine
section
variable {prog : Program} {w : World} {A A₀ : Around} {E : Value → Shared → Prop} {s : Shared} {K : Frag} {L : Addr} {h₀ base : Heap} {m mg mb : PySem.Str → Option Value} {p : Program} {loose : List PySem.Str} {mean : ExcName → Option Value}
theorem code_cells0 {env : Env} {outer : List Env} {R : Result → Shared → Prop} {name qual : PySem.Str} {params : Arguments} {body : List Stmt} {scope : Scope} {dV kV doc pm cdv ct oc : Value} {an od : Option Addr} {osl : Array (Option Value)} {f : Addr} {args : Args} {binds : List (PySem.Str × Value)}
    (B : Below A₀ base outer h₀) (F : Fr h₀ L s.heap m) (X₀ : K.In h₀) (T : Top p loose mean mg mb h₀) (hA : A.frames = some (env :: outer)) (hf : env.frame = some L) (hke : env.scope.kind = .function)
    (ho : K.lookup f = some ⟨oc, od, .func (fnOf name qual params body scope dV kV doc pm an cdv ct), osl⟩) (hcd : codeIn K cdv qual = true) (hroom : A.depth < recursionLimit)
    (hbind : BindsTo s (fnOf name qual params body scope dV kV doc pm an cdv ct) args binds) (hkind : (binds.all fun y => scope.names.lookup y.1 == some .local || scope.names.lookup y.1 == some .cell) = true)
    (hnd : ((cellsFrom 0 scope.names []).map (·.1)).Nodup)
    (h : ∀ L' h₁ tk cells, Fr s.heap L' h₁ (bindL (envOfC qual scope L' f cdv).kindOf binds fun _ => none) → News s.heap L' h₁ (cells ++ []) →
      CellsAre (bindC (envOfC qual scope L' f cdv).kindOf binds fun _ => none) (cellsFrom (L' + 1) scope.names []) cells → Below A base (env :: outer) s.heap → K.In s.heap → Top p loose mean mg mb s.heap →
      wpAny (model prog w) (A.deeper (envOfC qual scope L' f cdv)) (execs body (envOfC qual scope L' f cdv)) (fun fl s' => R (.ok (.ret (match fl with | .ret v => v | _ => .none))) s')
        (fun e s' => wpAny (model prog w) (A.deeper (envOfC qual scope L' f cdv)) (leaving (envOfC qual scope L' f cdv) e) (fun _ s'' => R (.error e) s'') (fun e' s'' => R (.error e') s'') s')
        { s with heap := h₁, toks := tk })
    (hco : scope.isCoroutine = false) (hgen : scope.isGenerator = false) (hk : scope.kind = .function) : codeAny (model prog w) A (.call (.ref f) args) R s := by
  obtain ⟨BG, st⟩ := ground0 (R := R) B F hA hf hke
  refine codeAny_call_function (fd := fnOf name qual params body scope dV kV doc pm an cdv ct) (body := body) hroom ((X₀.keeps F.keep) _ _ ho) rfl hco hgen rfl (codeRec_of (X₀.keeps F.keep) hcd) (hbind _ _ _ _ ?_)
  refine wpAny_newFunctionEnv_cells hk (kindsX hkind _) fun env' he s' x => ?_
  subst he
  refine ⟨((T.nolimit).keeps F.keep).keeps x.toInCall.keep, codeAny_func ?_⟩
  obtain ⟨h₁, tk, rfl, _⟩ := x.done
  have hk₁ := x.toInCall.keep
  obtain ⟨cells, NC, Y⟩ := Cl.news (h₀ := s.heap) (Nat.le_refl _) fun n c hm => ⟨x.cell n c (lookup_of_mem_nodup (cellsFrom_names scope.names 0 (s.heap.objs.size + 1) [] [] rfl ▸ hnd) hm), x.above n c hm⟩
  exact h s.heap.objs.size h₁ tk cells ⟨x.toInCall.ns, fun b o e => hk₁ b o e, Nat.le_refl _⟩ (by rw [List.append_nil]; exact NC) Y BG (X₀.keeps st) (T.keeps st)
end
end Mine
end
section
open PySem PySem.W PySem.Calls PyProof.Rows PyProof.Rows.LCg
set_option maxRecDepth 100000
set_option maxHeartbeats 2000000
namespace Mine
def EndE (h₀ : Heap) (L : Addr) (m : PySem.Str → Option Value) (s : Shared) (all : List (Addr × Obj)) (Good : Value → Prop) (y : Value) (s' : Shared) : Prop :=
  ∃ h' tk', s' = { s with heap := h', toks := tk' } ∧ Fr h₀ L h' m ∧ News h₀ L h' all ∧ Good y
section
variable {prog : Program} {w : World} {A : Around} {E : Value → Shared → Prop} {s : Shared} {h₀ : Heap} {L : Addr} {m : PySem.Str → Option Value} {env : Env}
theorem keep_off {wr : List Addr} {h h' : Heap} (F : Fr h₀ L h m) (hk : ∀ b o, b ∉ wr → h.get? b = some o → h'.get? b = some o) (hL : L ∉ wr) (hI : ∀ b ∈ wr, h₀.get? b = none) : Fr h₀ L h' m :=
  ⟨F.ns.at' fun o e => hk _ o hL e, fun b o e => hk b o (fun hb => by have := hI b hb; rw [e] at this; cases this) (F.keep b o e), F.above⟩
theorem news_off {wr : List Addr} {h h' : Heap} {news : List (Addr × Obj)} (N : News h₀ L h news) (hk : ∀ b o, b ∉ wr → h.get? b = some o → h'.get? b = some o) (off : ∀ p ∈ news, p.1 ∉ wr) : News h₀ L h' news :=
  fun p hp => ⟨hk _ _ (off p hp) (N p hp).1, (N p hp).2⟩
theorem block_En {elt iter : Expr} {x x₂ : PySem.Str} {px px₂ tp : Pos} {tk} {scope : Scope} {cl : List (PySem.Str × Addr)} {pos : Pos} {s₂ : Shared} {e it l : Addr} {lo : Obj} {vs : List Value} {nc : Nat} {old : Value} {news : List (Addr × Obj)} {Good : Value → Prop}
    {RR : Value → Addr → Result → Shared → Prop}
    (hh : A.handled = none) (hsz : vs.length ≤ sizeLine) (he : IsEnum s₂.heap e it 0 old) (hit : s₂.heap.IsListIter it l 0) (hm : (l, lo) ∈ news) (hc : lo.cls = .type "list") (hd : lo.data = .seq vs.toArray nc)
    (hei : e ≠ it) (off : ∀ p ∈ news, p.1 ∉ [e, it]) (hLw : L ∉ [e, it]) (hw₀ : ∀ b ∈ [e, it], h₀.get? b = none)
    (hcell : ∀ y ∈ scope.names, y.2 ≠ .cell) (hkind : scope.kind = .function) (hx : scope.names.lookup x = some .local) (hx₂ : scope.names.lookup x₂ = some .local) (hxx : x ≠ x₂)
    (F : Fr h₀ L s₂.heap m) (N : News h₀ L s₂.heap news)
    (R : ∀ (i : Nat) (v : Value), vs[i]? = some v → ∀ (t : Tok) (ys : List Value) (oE oI : Obj) (C : Addr) (oC : Obj) (D : Addr) (m₂ : PySem.Str → Option Value) (h : Heap) (tk : Nat) (E' : Value → Shared → Prop), NsObj oC m₂ → m₂ x = some (.int (i : Int) t) → m₂ x₂ = some v → Fr h₀ L h m →
      News h₀ L h ((e, oE) :: (it, oI) :: (C, oC) :: (D, lst ys) :: news) →
      wpAny (model prog w) A (eval elt (compEnvC scope cl C env)) (EndE h₀ L m { s₂ with heap := h, toks := tk } ((e, oE) :: (it, oI) :: (C, oC) :: (D, lst ys) :: news) Good) E' { s₂ with heap := h, toks := tk })
    (hRR : ∀ D C h tk m' ys, Fr h₀ L h m → News h₀ L h ((D, lst ys) :: news) → h.Ns C m' → h₀.get? C = none → h₀.get? D = none → C ≠ L → D ≠ L → C ≠ D → (∀ p ∈ news, p.1 ≠ C) → ys.length = vs.length → (∀ y ∈ ys, Good y) → RR (.ref D) C (.ok .next) { s₂ with heap := h, toks := tk }) :
    wpAny (model prog w) A (newList []) (fun acc s₃ => wpAny (model prog w) A (newFunctionEnv scope env.globals cl [] env.qual none .none (some env)) (fun cenv s₄ =>
      codeAny (model prog w) A (.compStart (.ListComp elt [⟨.Tuple [.Name x px, .Name x₂ px₂] tk tp, iter, [], 0⟩] scope pos) 0 (.ref e) acc { cenv with scope := relabel scope env }) (RR acc cenv.locals) s₄) E s₃) E s₂ := by
  have hle : l ≠ e := fun q => off _ hm (by rw [show ((l, lo) : Addr × Obj).1 = e from q]; simp)
  have hli : l ≠ it := fun q => off _ hm (by rw [show ((l, lo) : Addr × Obj).1 = it from q]; simp)
  have W := WalksT.enumerate (prog := prog) (w := w) hh e it l hei hle hli vs.toArray
  have hns : vs.toArray.size = vs.length := by simp
  rw [hns] at W
  have hl0 : s₂.heap.IsList l vs.toArray := ⟨lo, (N _ hm).1, hc, nc, hd⟩
  refine wpAny_newObj_type (wpAny_newFunctionEnv hcell (by intro y hy; simp at hy) (fun h₁ hns₁ hsb₁ => ?_) hkind)
  dsimp only at hns₁ hsb₁ ⊢
  generalize hH2 : s₂.heap.push { cls := .type "list", dict := none, data := .seq ([] : List Value).toArray } = H2 at hns₁ hsb₁ ⊢
  have hC : H2.objs.size = s₂.heap.objs.size + 1 := by rw [← hH2, Heap.size_push]
  have hDC : s₂.heap.objs.size ≠ H2.objs.size := by rw [hC]; exact Nat.ne_of_lt (Nat.lt_succ_self _)
  have below : ∀ b, b < s₂.heap.objs.size → b ≠ H2.objs.size ∧ b ≠ s₂.heap.objs.size := fun b hb => ⟨by rw [hC]; exact Nat.ne_of_lt (Nat.lt_succ_of_lt hb), Nat.ne_of_lt hb⟩
  have helt : e < s₂.heap.objs.size := Heap.lt_size he
  have hilt : it < s₂.heap.objs.size := by obtain ⟨_, q, _⟩ := hit; exact Heap.lt_size q
  have hllt : l < s₂.heap.objs.size := Heap.lt_size (N _ hm).1
  have old : ∀ b o, s₂.heap.get? b = some o → h₁.get? b = some o := fun b o q => hsb₁.extBut b o (below b (Heap.lt_size q)).1 (Heap.get?_push_of_some _ (hH2 ▸ Heap.get?_push_of_some _ q))
  have hacc : h₁.get? s₂.heap.objs.size = some (lst []) := hsb₁.extBut _ _ hDC (Heap.get?_push_of_some _ (hH2 ▸ Heap.get?_push_size _ rfl))
  have fresh : ∀ a, s₂.heap.objs.size ≤ a → s₂.heap.get? a = none := fun a ha => by
    cases q : s₂.heap.get? a with
    | none => rfl
    | some o' => exact absurd (Heap.lt_size q) (Nat.not_lt.mpr ha)
  have fresh₀ : ∀ a, s₂.heap.objs.size ≤ a → h₀.get? a = none := fun a ha => by
    cases q : h₀.get? a with
    | none => rfl
    | some o' => have := F.keep a o' q; rw [fresh a ha] at this; cases this
  have hD₀ : h₀.get? s₂.heap.objs.size = none := fresh₀ _ (Nat.le_refl _)
  have hC₀ : h₀.get? H2.objs.size = none := fresh₀ _ (by rw [hC]; exact Nat.le_succ _)
  have hLlt : L < s₂.heap.objs.size := F.ns.lt
  have hDL : s₂.heap.objs.size ≠ L := Ne.symm (below L hLlt).2
  have hCL : H2.objs.size ≠ L := Ne.symm (below L hLlt).1
  have hnC : ∀ p ∈ news, p.1 ≠ H2.objs.size := fun p hp => (below _ (Heap.lt_size (N p hp).1)).1
  have hnD : ∀ p ∈ news, p.1 ≠ s₂.heap.objs.size := fun p hp => (below _ (Heap.lt_size (N p hp).1)).2
  have hCw : H2.objs.size ∉ [e, it] := by
    intro q
    simp only [List.mem_cons, List.not_mem_nil, or_false] at q
    rcases q with q | q
    · exact (below e helt).1 q.symm
    · exact (below it hilt).1 q.symm
  have hDw : s₂.heap.objs.size ∉ [e, it] := by
    intro q
    simp only [List.mem_cons, List.not_mem_nil, or_false] at q
    rcases q with q | q
    · exact (below e helt).2 q.symm
    · exact (below it hilt).2 q.symm
  have hfC : ∀ b ∈ [e, it, l], b ≠ H2.objs.size ∧ b ≠ s₂.heap.objs.size := fun b hb => by
    simp only [List.mem_cons, List.not_mem_nil, or_false] at hb
    rcases hb with rfl | rfl | rfl
    · exact below _ helt
    · exact below _ hilt
    · exact below _ hllt
  have loop : ∀ s₃ : Shared, s₃ = { s₂ with heap := h₁, toks := s₂.toks + ([] : List (PySem.Str × Value)).length } →
      codeAny (model prog w) A (.compLoop (.ListComp elt [⟨.Tuple [.Name x px, .Name x₂ px₂] tk tp, iter, [], 0⟩] scope pos) 0 (.ref e) (.ref s₂.heap.objs.size) (compEnvC scope cl H2.objs.size env))
        (RR (.ref s₂.heap.objs.size) H2.objs.size) s₃ := by
    rintro s₃ rfl
    refine LCp.codeAny_compLoop_pair
      (fun k s' => ∃ h' tk i ys m', s' = { s₂ with heap := h', toks := tk } ∧ i ≤ vs.length ∧ k = vs.length + 1 - i ∧ ys.length = i ∧ ((∃ old, IsEnum h' e it i old) ∧ h'.IsListIter it l i ∧ h'.IsList l vs.toArray) ∧ Fr h₀ L h' m ∧ h'.Ns H2.objs.size m' ∧
        News h₀ L h' ((s₂.heap.objs.size, lst ys) :: news) ∧ (∀ y ∈ ys, Good y)) ?_ (vs.length + 1)
      ⟨h₁, _, 0, [], _, rfl, Nat.zero_le _, rfl, rfl, ⟨⟨_, old _ _ he⟩, hit.at fun o q => old _ o q, hl0.at fun o q => old _ o q⟩, F.keeps old, hns₁, fun p hp => ?_, fun y hy => nomatch hy⟩
    · rintro k s' ⟨h', tk, i, ys, m', rfl, hi, rfl, hyl, hst', F', hn', N', hG⟩
      have offD : ∀ p ∈ (s₂.heap.objs.size, lst ys) :: news, p.1 ∉ [e, it] := fun p hp => by
        rcases List.mem_cons.mp hp with rfl | hp
        · exact hDw
        · exact off p hp
      by_cases hlt : i < vs.length
      · refine W.item i _ _ _ hlt hst' fun T vals h₂ tk₂ hPt hT hIT hMid hk₂ => ?_
        obtain ⟨t, v, hv, rfl⟩ := hPt
        refine W.go _ _ _ i T _ _ _ hMid fun h₂' hst₂ hk₂' => ?_
        have hTw : T ∉ [e, it] := W.apart _ _ _ hMid
        have ht : IsTup h₂' T #[.int (i : Int) t, v] := by
          obtain ⟨oT, q1, q2⟩ := hIT
          exact ⟨oT, hk₂' _ _ hTw q1, q2⟩
        have F₂ := keep_off (keep_off F' hk₂ hLw hw₀) hk₂' hLw hw₀
        have N₂ := news_off (news_off N' hk₂ offD) hk₂' offD
        have n₂ : h₂'.Ns H2.objs.size m' := (hn'.at' fun o q => hk₂ _ o hCw q).at' fun o q => hk₂' _ o hCw q
        refine assign_Tuple_tuple hh ht rfl rfl fun h₅ hx₅ => ?_
        have he' : ∀ b o, h₂'.get? b = some o → h₅.get? b = some o := fun b o q => hx₅ b o (Nat.ne_of_lt (Heap.lt_size q)) q
        refine assignInOrder_cons (wpAny_assign_Name (wpAny_storeName_local (lookup_relabel_local hx) (n₂.at' fun o q => he' _ o q) (fun h₆ hn₆ hs₆ => ?_) (by simp [compEnvC, relabel, hkind])))
        refine assignInOrder_cons (wpAny_assign_Name (wpAny_storeName_local (lookup_relabel_local hx₂) hn₆ (fun h₃ hn₃ hs₃ => ?_) (by simp [compEnvC, relabel, hkind])))
        refine assignInOrder_nil ?_
        have old3 : ∀ b o, b ≠ H2.objs.size → h₂'.get? b = some o → h₃.get? b = some o := fun b o hb q => hs₃.extBut b o hb (hs₆.extBut b o hb (he' b o q))
        have hst₃ := W.frame _ _ _ hst₂ fun b hb o q => old3 b o (hfC b hb).1 q
        obtain ⟨⟨oldv, hE₃⟩, ⟨oI, hI₃, hI₃'⟩, hL₃⟩ := hst₃
        obtain ⟨oC, heC, hoC⟩ := ns_obj hn₃
        have F₃ : Fr h₀ L h₃ m := ((F₂.keeps he').change hs₆ hCL hC₀).change hs₃ hCL hC₀
        have N₃ : News h₀ L h₃ ((e, _) :: (it, oI) :: (H2.objs.size, oC) :: (s₂.heap.objs.size, lst ys) :: news) := fun p hp => by
          rcases List.mem_cons.mp hp with rfl | hp
          · exact ⟨hE₃, fun q => hLw (by rw [show e = L from q]; simp), hw₀ _ (by simp)⟩
          rcases List.mem_cons.mp hp with rfl | hp
          · exact ⟨hI₃, fun q => hLw (by rw [show it = L from q]; simp), hw₀ _ (by simp)⟩
          rcases List.mem_cons.mp hp with rfl | hp
          · exact ⟨heC, hCL, hC₀⟩
          · have z := N₂ p hp
            refine ⟨old3 _ _ ?_ z.1, z.2⟩
            rcases List.mem_cons.mp hp with rfl | hp
            · exact hDC
            · exact hnC p hp
        have hv' : vs[i]? = some v := by simpa using hv
        refine wpAny_mono (R i v hv' t ys _ oI H2.objs.size oC s₂.heap.objs.size _ h₃ _ _ hoC (by simp [hxx]) (by simp) F₃ N₃) (fun y s₄ h₄ => ?_) fun _ _ q => q
        obtain ⟨h₄, tk₄, rfl, F₄, N₄, hy⟩ := h₄
        have zE := (N₄ _ (.head _)).1
        have zI := (N₄ _ (.tail _ (.head _))).1
        have zC := (N₄ _ (.tail _ (.tail _ (.head _)))).1
        have zD := (N₄ _ (.tail _ (.tail _ (.tail _ (.head _))))).1
        have N₄' : News h₀ L h₄ news := fun p hp => N₄ p (.tail _ (.tail _ (.tail _ (.tail _ hp))))
        refine append_at (hsz := by show ys.toArray.size ≤ sizeLine; rw [List.size_toArray, hyl]; exact Nat.le_trans hi hsz) zD fun h₅' hs₅ hD₅ => ?_
        refine ⟨vs.length + 1 - (i + 1), by omega, h₅', tk₄, i + 1, ys ++ [y], _, rfl, hlt, rfl, by rw [List.length_append, List.length_singleton, hyl], ?_, F₄.change hs₅ hDL hD₀,
          (hoC.ns zC).sameBut hs₅ (Ne.symm hDC), fun p hp => ?_, fun y' hy' => ?_⟩
        · refine W.frame _ _ _ ⟨⟨_, zE⟩, ⟨oI, zI, hI₃'⟩, ⟨lo, (N₄' _ hm).1, hc, nc, hd⟩⟩ fun b hb o q => hs₅.extBut b o (hfC b hb).2 q
        · rcases List.mem_cons.mp hp with rfl | hp
          · exact ⟨hD₅.trans (congrArg some (lst_snoc ys y)), hDL, hD₀⟩
          · exact ⟨hs₅.extBut _ _ (hnD p hp) (N₄' p hp).1, (N₄' p hp).2⟩
        · rcases List.mem_append.mp hy' with q | q
          · exact hG _ q
          · rw [List.mem_singleton.mp q]; exact hy
      · obtain rfl : i = vs.length := Nat.le_antisymm hi (Nat.not_lt.mp hlt)
        refine W.done _ _ _ hst' fun h₂ tk₂ hk₂ => ?_
        exact hRR _ _ h₂ tk₂ _ ys (keep_off F' hk₂ hLw hw₀) (news_off N' hk₂ offD) (hn'.at' fun o q => hk₂ _ o hCw q) hC₀ hD₀ hCL hDL (Ne.symm hDC) hnC hyl hG
    · rcases List.mem_cons.mp hp with rfl | hp
      · exact ⟨hacc, hDL, hD₀⟩
      · exact ⟨old _ _ (N p hp).1, (N p hp).2⟩
  exact codeAny_compStart_list (loop _ rfl) (W.self 0 _ _ _ ⟨⟨_, old _ _ he⟩, hit.at fun o q => old _ o q, hl0.at fun o q => old _ o q⟩ (loop _ rfl))
end
end Mine
end
section
open PySem PySem.W PySem.Calls PyProof.Rows PyProof.Rows.LCg
set_option maxRecDepth 100000
set_option maxHeartbeats 2000000
namespace Mine
section
variable {prog : Program} {w : World} {A : Around} {E : Value → Shared → Prop} {s : Shared} {h₀ : Heap} {L : Addr} {m : PySem.Str → Option Value} {env : Env}
def EnR (prog : Program) (w : World) (A : Around) (h₀ : Heap) (L : Addr) (m : PySem.Str → Option Value) (env : Env) (elt : Expr) (x x₂ : PySem.Str) (scope : Scope) (cl : List (PySem.Str × Addr)) (news : List (Addr × Obj)) (vs : List Value) (Good : Value → Prop) (e it : Addr) (s₂ : Shared) : Prop :=
  ∀ (i : Nat) (v : Value), vs[i]? = some v → ∀ (t : Tok) (ys : List Value) (oE oI : Obj) (C : Addr) (oC : Obj) (D : Addr) (m₂ : PySem.Str → Option Value) (h : Heap) (tk : Nat) (E' : Value → Shared → Prop), NsObj oC m₂ → m₂ x = some (.int (i : Int) t) → m₂ x₂ = some v → Fr h₀ L h m →
      News h₀ L h ((e, oE) :: (it, oI) :: (C, oC) :: (D, lst ys) :: news) →
      wpAny (model prog w) A (eval elt (compEnvC scope cl C env)) (EndE h₀ L m { s₂ with heap := h, toks := tk } ((e, oE) :: (it, oI) :: (C, oC) :: (D, lst ys) :: news) Good) E' { s₂ with heap := h, toks := tk }
def EnFin (h₀ : Heap) (L : Addr) (m : PySem.Str → Option Value) (news : List (Addr × Obj)) (vs : List Value) (Good : Value → Prop) (Q : Value → Shared → Prop) (s₂ : Shared) : Prop :=
  ∀ (D : Addr) (h : Heap) (tk : Nat) (ys : List Value), Fr h₀ L h m → News h₀ L h ((D, lst ys) :: news) → ys.length = vs.length → (∀ y ∈ ys, Good y) → Q (.ref D) { s₂ with heap := h, toks := tk }
def SrcEn (prog : Program) (w : World) (A : Around) (h₀ : Heap) (L : Addr) (m : PySem.Str → Option Value) (env : Env) (elt : Expr) (x x₂ : PySem.Str) (scope : Scope) (cl : List (PySem.Str × Addr)) (Q : Value → Shared → Prop) (xv : Value) (s₁ : Shared) : Prop :=
  ∃ (e it l : Addr) (lo : Obj) (nc : Nat) (old : Value) (news : List (Addr × Obj)) (vs : List Value) (Good : Value → Prop), xv = .ref e ∧ A.handled = none ∧ vs.length ≤ sizeLine ∧ IsEnum s₁.heap e it 0 old ∧ s₁.heap.IsListIter it l 0 ∧ (l, lo) ∈ news ∧ lo.cls = .type "list" ∧ lo.data = .seq vs.toArray nc ∧ e ≠ it ∧
    (∀ p ∈ news, p.1 ∉ [e, it]) ∧ L ∉ [e, it] ∧ (∀ b ∈ [e, it], h₀.get? b = none) ∧ Fr h₀ L s₁.heap m ∧ News h₀ L s₁.heap news ∧ EnR prog w A h₀ L m env elt x x₂ scope cl news vs Good e it s₁ ∧ EnFin h₀ L m news vs Good Q s₁
theorem ListComp_En {elt iter : Expr} {x x₂ : PySem.Str} {px px₂ tp : Pos} {tk} {scope : Scope} {cl : List (PySem.Str × Addr)} {pos : Pos} {Q : Value → Shared → Prop}
    (hclos : closureFor scope env = pure cl) (hcell : ∀ y ∈ scope.names, y.2 ≠ .cell) (hkind : scope.kind = .function)
    (hnames : ∀ y ∈ scope.names, y.2 = .local → scope.names.lookup y.1 = some .local) (hx : scope.names.lookup x = some .local) (hx₂ : scope.names.lookup x₂ = some .local) (hxx : x ≠ x₂)
    (h : wpAny (model prog w) A (eval iter env) (SrcEn prog w A h₀ L m env elt x x₂ scope cl Q) E s)
    (hs : ∀ x, foldedSetIterable iter env x = pure x := by intro _; rfl) :
    wpAny (model prog w) A (eval (.ListComp elt [⟨.Tuple [.Name x px, .Name x₂ px₂] tk tp, iter, [], 0⟩] scope pos) env) Q E s := by
  rw [eval_ListComp]
  refine wpAny_comprehension_free (use := none) rfl hs hclos hkind hnames (wpAny_mono h (fun xv s₁ h₁ => ?_) fun _ _ e => e)
  obtain ⟨e, it, l, lo, nc, old, news, vs, Good, rfl, hh, hsz, he, hit, hm, hc, hd, hei, off, hLw, hw₀, F, N, R, fin⟩ := h₁
  refine wpAny_pyIter_enum he ?_
  refine block_En hh hsz he hit hm hc hd hei off hLw hw₀ hcell hkind hx hx₂ hxx F N R ?_
  intro D C h tk m' ys F' N' hn hC₀ hD₀ hCL hDL hCD offC hyl hG
  refine ⟨m', hn, fun h'' hs'' => fin D h'' tk ys (F'.change hs'' hCL hC₀) (fun p hp => ?_) hyl hG⟩
  refine ⟨hs''.extBut _ _ ?_ (N' p hp).1, (N' p hp).2⟩
  rcases List.mem_cons.mp hp with rfl | hp
  · exact Ne.symm hCD
  · exact offC p hp
theorem call_En {elt : Expr} {x x₂ : PySem.Str} {scope : Scope} {cl : List (PySem.Str × Addr)} {l : Addr} {lo : Obj} {vs : List Value} {nc : Nat} {news : List (Addr × Obj)} {Q : Value → Shared → Prop} (Good : Value → Prop)
    (hh : A.handled = none) (hsz : vs.length ≤ sizeLine) (hm : (l, lo) ∈ news) (hc : lo.cls = .type "list") (hd : lo.data = .seq vs.toArray nc) (F : Fr h₀ L s.heap m) (N : News h₀ L s.heap news)
    (R : ∀ h' e it, (∀ p ∈ news, p.1 < it) → it < e → EnR prog w A h₀ L m env elt x x₂ scope cl news vs Good e it { s with heap := h' }) (fin : ∀ h', EnFin h₀ L m news vs Good Q { s with heap := h' }) :
    wpAny (model prog w) A (call (.type "enumerate") [.ref l]) (SrcEn prog w A h₀ L m env elt x x₂ scope cl Q) E s := by
  have hl : s.heap.IsList l vs.toArray := ⟨lo, (N _ hm).1, hc, nc, hd⟩
  have hLs : L < s.heap.objs.size := F.ns.lt
  refine call_enumerate_list hl fun h' hE hI hsz' hk => ?_
  have hnew : ∀ b, s.heap.objs.size ≤ b → h₀.get? b = none := fun b hb => by
    cases q : h₀.get? b with
    | none => rfl
    | some o => exact absurd (Heap.lt_size (F.keep _ _ q)) (Nat.not_lt.mpr hb)
  refine ⟨s.heap.objs.size + 1, s.heap.objs.size, l, lo, nc, _, news, vs, Good, rfl, hh, hsz, hE, hI, hm, hc, hd, Nat.succ_ne_self _, fun p hp q => ?_, fun q => ?_, fun b hb => ?_, F.keeps hk, N.grown hk, R h' _ _ (fun p hp => Heap.lt_size (N p hp).1) (Nat.lt_succ_self _), fin h'⟩
  · have hlp : @LT.lt Nat _ p.1 s.heap.objs.size := Heap.lt_size (N p hp).1
    simp only [List.mem_cons, List.not_mem_nil, or_false] at q
    rcases q with q | q
    · exact absurd hlp (by rw [show p.1 = s.heap.objs.size + 1 from q]; omega)
    · exact absurd hlp (by rw [show p.1 = s.heap.objs.size from q]; omega)
  · simp only [List.mem_cons, List.not_mem_nil, or_false] at q
    rcases q with q | q
    · exact absurd hLs (by rw [show L = s.heap.objs.size + 1 from q]; exact Nat.not_lt.mpr (Nat.le_succ _))
    · exact absurd hLs (by rw [show L = s.heap.objs.size from q]; exact Nat.lt_irrefl _)
  · simp only [List.mem_cons, List.not_mem_nil, or_false] at hb
    rcases hb with rfl | rfl
    · exact hnew _ (Nat.le_succ _)
    · exact hnew _ (Nat.le_refl _)
end
end Mine
end
section
open PySem PySem.W PySem.Calls PyProof.Rows
set_option maxRecDepth 100000
namespace Mine

local macro_rules | `(tactic| walk_at "eval ListComp") => `(tactic| (k_here; (with_reducible show wpAny _ _ (eval (PySem.Expr.ListComp (PySem.Expr.BinOp (PySem.Expr.Name _ _) _ _ _) _ _ _) _) _ _ _); refine Hold.mk ?_))
local macro_rules | `(tactic| walk_at "call type:enumerate") => `(tactic| (k_here; refine Hold.mk ?_))

set_option maxHeartbeats 8000000 in
theorem draws_c (w : World) (mean : ExcName → Option Value) (mg mb : PySem.Str → Option Value) (l : Addr) (vs : List Value) (ns : List Int) (hv : IntsAre vs ns) (hn : ns.length ≤ 63) :
    Ctr w mean mg mb 47 4 (fun h => h.IsList l vs.toArray) [.ref l] (fun r h h' => ∃ (D : Addr) (ys : List Value) (n : Nat), r = .ref D ∧ h.get? D = none ∧ h'.get? D = some (PySem.W.listOf ys.toArray n) ∧ ys.length = 6 ∧ ∀ y ∈ ys, ∃ n t, y = .int n t) := by
  w_top off
  refine fill ?_
  unfold Ctr KK
  k_fill
  intro _ _ dp un cn cs a ccd cl outer A₀ base h₀ L m s Q E B F X T hk hpre hd hu hret
  refine wpAny_call ?_
  k_dflt (refine' code_cells0 (binds := [(PySem.Str.ofString "script", .ref l)]) ?k1 ?k2 ?k3 ?k5 ?kA ?kF ?kK ?k6 ?k7 ?k8 ?k9 ?kB ?kD ?_ ?c2 ?c3 ?c4; (case kA => exact rfl); (case kF => exact rfl); (case kK => assumption); (case k1 => k_asm); (case k2 => k_asm); (case k3 => k_asm); (case k5 => k_asm); (case k6 => k_is); (case k7 => k_is); (case k8 => ktr_room); (case k9 => exact BindsTo.of_eq rfl); (case kB => exact rfl); (case kD => decide +kernel); (case c2 => exact rfl); (case c3 => exact rfl); (case c4 => exact rfl); k_whole; intro L' h' tk' cells' F' N' Y' B' X' T'; k_cells Y'; (try simp only [List.cons_append, List.nil_append] at N'); (try dsimp only); (try k_fold))
  have hL := hpre
  k_steps
  rename IntsAre _ _ => hI8
  have hms : (List.map (fun k' : Int => k'.fmod (10 ^ Int.toNat 6)) (List.take 12 ns)).length ≤ 12 := by rw [List.length_map, List.length_take]; omega
  revert hI8 hms
  generalize List.map (fun k' : Int => k'.fmod (10 ^ Int.toNat 6)) (List.take 12 ns) = ms
  intro hI8 hms
  refine Hold.in ?_
  rename Fr _ _ _ _ => F5
  refine ListComp_En (h₀ := s.heap) (L := L') (m := up (fun _ => none) (PySem.Str.ofString "script") (some (.ref l))) (by with_unfolding_all rfl) (by decide) (by rfl) (by decide) (by rfl) (by rfl) (by decide) ?_
  k_steps
  refine Hold.in ?_
  rename Fr _ _ _ _ => F6
  rename News _ _ _ _ => N6
  have hI9 := IntsAre.cons 0 tk (.cons 16 (tk + 1) (.cons 1 (tk + 1 + 1) (.cons 4 (tk + 1 + 1 + 1) (.cons 0 (tk + 1 + 1 + 1 + 1) (.cons 3 (tk + 1 + 1 + 1 + 1 + 1) .nil)))))
  refine call_En (fun y => ∃ n t, y = .int n t) (by rfl) (by rw [sizeLine_eq]; show (6 : Nat) ≤ _; omega) (.head _) rfl rfl F6 N6 ?_ ?_
  · intro h9 e it hlt hie i v hv t ys9 oE oI C oC D m₂ h8 tk8 E' hNs hmp hmb F7 N7
    obtain ⟨b, tb, rfl, hb9⟩ := hI9.at i v hv
    have hi : i < 6 := by
      have := (List.getElem?_eq_some_iff.mp hv).1
      exact this
    clear hI9 F6 N6
    k_steps
    rename Fr _ _ _ _ => F9
    rename News _ _ _ _ => N9
    have hlst := N9 _ (.head _)
    have hpk := IntsAre.pick hI8 (some (i : Int)) none (some 6)
    refine LSm.sum_ints F9 N9 (by rfl) (vs := (slicePick ys.toArray (some (i : Int)) none (some 6)).toList) ⟨_, hlst.1, rfl, _, by rw [Array.toArray_toList]⟩ hpk ?_
    intro h10 tk10 t10 F10 N10
    clear F9 N9
    k_steps
    exact ⟨_, _, rfl, F10, fun p hp => N10 p (.tail _ hp), _, _, rfl⟩
  · intro h9 D h8 tk8 ys9 F7 N7 hyl hG
    exact hret _ _ _ (Fr.keep F7) ⟨D, ys9, ys9.length, rfl, (N7 _ (.head _)).2.2, (N7 _ (.head _)).1, hyl, hG⟩

end Mine
end
section
open PySem PySem.W PySem.Calls PyProof.Rows PySem.StrLaws PySem.Builtin.Str
namespace Mine
def dots : List Nat := [46, 46, 46]
theorem dots_eq : PySem.Str.ofString "..." = mkS dots := by rfl
theorem at_dots {aw : List Nat} (ha : ∀ x ∈ aw, x ≠ 46) {k : Nat} : At (mkS (aw ++ ([46, 46, 46] ++ aw))) (mkS dots) (mkS (aw ++ ([46, 46, 46] ++ aw))).length k ↔ k = aw.length := by
  have e1 : (mkS (aw ++ ([46, 46, 46] ++ aw))).cps.toList = aw ++ ([46, 46, 46] ++ aw) := by simp [mkS]
  have e2 : (mkS dots).cps.toList = [46, 46, 46] := by simp [mkS, dots]
  have e3 : (mkS dots).length = 3 := by simp [mkS_len, dots]
  unfold At
  rw [subAt_eq, e1, e2, e3, mkS_len, beq_iff_eq]
  have get46 : ∀ j : Nat, (aw ++ ([46, 46, 46] ++ aw))[j]? = some 46 → aw.length ≤ j ∧ j < aw.length + 3 := by
    intro j hj
    by_cases h1 : j < aw.length
    · rw [List.getElem?_append_left h1] at hj
      exact absurd rfl (ha _ (List.mem_of_getElem? hj))
    · refine ⟨by omega, ?_⟩
      rw [List.getElem?_append_right (by omega)] at hj
      by_cases h2 : j - aw.length < 3
      · omega
      · rw [List.getElem?_append_right (by simpa using h2)] at hj
        exact absurd rfl (ha _ (List.mem_of_getElem? hj))
  constructor
  · rintro ⟨h1, h2⟩
    have g : ∀ i, i < 3 → (aw ++ ([46, 46, 46] ++ aw))[k + i]? = some 46 := by
      intro i hi
      have := congrArg (fun l => l[i]?) h2
      simp only [List.getElem?_take, if_pos hi, List.getElem?_drop] at this
      rw [this]
      have : i = 0 ∨ i = 1 ∨ i = 2 := by omega
      rcases this with rfl | rfl | rfl <;> rfl
    have g0 := get46 _ (g 0 (by omega))
    have g2 := get46 _ (g 2 (by omega))
    omega
  · rintro rfl
    constructor
    · simp
    · rw [List.drop_left]; rfl
theorem kind_dots (x : PySem.Str) : ¬ Builtin.Str.strKind x < Builtin.Str.strKind (mkS dots) := by
  have h : Builtin.Str.strKind (mkS dots) = 1 := by
    unfold Builtin.Str.strKind
    rw [if_pos]
    simp [mkS, dots]
  rw [h]
  unfold Builtin.Str.strKind
  split
  · omega
  · split <;> omega
theorem split_dots {aw : List Nat} (ha : ∀ x ∈ aw, x ≠ 46) : Txt.split (mkS (aw ++ ([46, 46, 46] ++ aw))) (mkS dots) = [mkS aw, mkS aw] := by
  have hd3 : (mkS dots).length = 3 := by simp [mkS_len, dots]
  have hl : (mkS (aw ++ ([46, 46, 46] ++ aw))).length = aw.length + (3 + aw.length) := by rw [mkS_len, List.length_append, List.length_append]; rfl
  obtain ⟨f, hc, hn⟩ := occ_tight (mkS (aw ++ ([46, 46, 46] ++ aw))) (mkS dots) (by omega)
  have hcut : occurrences (mkS (aw ++ ([46, 46, 46] ++ aw))) (mkS dots) 0 (mkS (aw ++ ([46, 46, 46] ++ aw))).length ((mkS (aw ++ ([46, 46, 46] ++ aw))).length + 1) = [aw.length] := by
    revert hc
    generalize occurrences (mkS (aw ++ ([46, 46, 46] ++ aw))) (mkS dots) 0 (mkS (aw ++ ([46, 46, 46] ++ aw))).length ((mkS (aw ++ ([46, 46, 46] ++ aw))).length + 1) = cuts
    intro hc
    match cuts, hc with
    | [], hc =>
      have hf : f = 0 := hc
      subst hf
      exact absurd ((at_dots ha).mpr rfl) (hn _ (Nat.zero_le _))
    | [c], hc =>
      rw [(at_dots ha).mp hc.2.1]
    | c :: c' :: r, hc =>
      have h1 := (at_dots ha).mp hc.2.1
      have h2 := (at_dots ha).mp hc.2.2.2.2.1
      have h3 := hc.2.2.2.1
      rw [hd3] at h3
      omega
  unfold Txt.split
  rw [if_neg, hcut]
  · simp only [List.isEmpty_cons, Bool.false_eq_true, if_false]
    rw [partsBetween_eq]
    simp only [partsFrom]
    rw [strSub_mk, strSub_mk, hl, hd3]
    unfold mkS
    simp only [List.nil_append, Nat.sub_zero, List.drop_zero]
    have q1 : (aw ++ ([46, 46, 46] ++ aw)).take aw.length = aw := List.take_left
    have q2 : ((aw ++ ([46, 46, 46] ++ aw)).drop (aw.length + 3)).take (aw.length + (3 + aw.length) - (aw.length + 3)) = aw := by
      rw [← List.drop_drop, List.drop_left, show aw.length + (3 + aw.length) - (aw.length + 3) = aw.length by omega]
      exact List.take_length
    rw [q1, q2]
  · simp only [Bool.or_eq_true, decide_eq_true_eq, not_or]
    exact ⟨by omega, kind_dots _⟩
theorem has_dots {aw : List Nat} (ha : ∀ x ∈ aw, x ≠ 46) : (occurrences (mkS (aw ++ ([46, 46, 46] ++ aw))) (mkS dots) 0 (mkS (aw ++ ([46, 46, 46] ++ aw))).length 1).isEmpty = false := by
  have := (found_iff (mkS (aw ++ ([46, 46, 46] ++ aw))) (mkS dots)).mpr ⟨aw.length, (at_dots ha).mpr rfl⟩
  simpa using this
theorem split_dots' {aw : List Nat} (ha : ∀ x ∈ aw, x ≠ 46) : Txt.split (mkS (aw ++ 46 :: 46 :: 46 :: aw)) (mkS dots) = [mkS aw, mkS aw] := split_dots ha
theorem has_dots' {aw : List Nat} (ha : ∀ x ∈ aw, x ≠ 46) : (occurrences (mkS (aw ++ 46 :: 46 :: 46 :: aw)) (mkS dots) 0 (mkS (aw ++ 46 :: 46 :: 46 :: aw)).length 1).isEmpty = false := has_dots ha
end Mine
end
section
open PySem PySem.W PySem.Calls PyProof.Rows PySem.StrLaws PySem.Builtin PySem.Builtin.Str
namespace Mine
theorem gives_find4 (x y : PySem.Str) (i j : Int) (t u v w : Tok) : Gives («str.find» ⟨[.str x t, .str y u, .int i v, .int j w], []⟩) (.int (match occurrences x y (fromIndex x.length i) (min (fromIndex x.length j) x.length) 1 with | k :: _ => (k : Int) | [] => -1)) := by
  show Gives (match occurrences x y (fromIndex x.length i) (min (fromIndex x.length j) x.length) 1 with | k :: _ => retInt k | [] => (do rule "str.find.not-found"; retInt (-1))) _
  cases occurrences x y (fromIndex x.length i) (min (fromIndex x.length j) x.length) 1 with
  | nil => exact .rule (.of_eq rfl)
  | cons k _ => exact .of_eq rfl
section
variable {prog : Program} {w : World} {A : Around} {E : Value → Shared → Prop} {s : Shared}
theorem find_empty {x : PySem.Str} {t u a b : Tok} {n : Int} {Q : Value → Shared → Prop} (hn : n = x.length)
    (h : Q (.int 0 s.toks) { s with toks := s.toks + 1 }) : wpAny (model prog w) A (call (.builtin "str.find") [.str x t, .str (mkS []) u, .int 0 a, .int n b]) Q E s := by
  subst hn
  have e : (match occurrences x (mkS []) (fromIndex x.length 0) (min (fromIndex x.length x.length) x.length) 1 with | k :: _ => (k : Int) | [] => -1) = 0 := by
    have e1 : fromIndex x.length 0 = 0 := by unfold fromIndex; simp
    have e2 : min (fromIndex x.length x.length) x.length = x.length := by unfold fromIndex; split <;> omega
    rw [e1, e2]
    have at0 : At x (mkS []) x.length 0 := by
      refine ⟨by rw [mkS_len]; simp, ?_⟩
      rw [subAt_eq]
      exact beq_iff_eq.mpr (by rw [mkS_len]; simp [mkS])
    rcases occ_head x (mkS []) 1 (Nat.le_refl _) with ⟨h1, h2⟩ | ⟨i, r, h1, h2, h3⟩
    · exact absurd at0 (h2 0)
    · rw [h1]
      have : i = 0 := by
        rcases Nat.eq_zero_or_pos i with h | h
        · exact h
        · exact absurd at0 (h3 0 h)
      subst this
      rfl
  have g := gives_find4 x (mkS []) 0 x.length t u a b
  rw [e] at g
  exact call_gives F.slot_str_find (typeIs_str _ _ _) F.entry_str_find (F.args_str_find_4 _ _ _ _) g h
end
theorem starts_of {a g : List Nat} (h : a <+: g) : Txt.startswith (mkS g) (mkS a) = true := by
  obtain ⟨r, rfl⟩ := h
  unfold Txt.startswith
  rw [mkS_len, mkS_len, subAt_eq, mkS_len]
  simp [mkS]
theorem ends_of {a g : List Nat} (h : a <:+ g) : Txt.endswith (mkS g) (mkS a) = true := by
  obtain ⟨r, rfl⟩ := h
  unfold Txt.endswith
  rw [mkS_len, mkS_len, subAt_eq, mkS_len]
  simp [mkS]
end Mine
end
section
open PySem PySem.W PySem.Calls PyProof.Rows
set_option maxRecDepth 100000
namespace Mine

local macro_rules | `(tactic| walk_at "call builtin:str.find") => `(tactic| ((with_reducible show wpAny _ _ (call (Value.builtin "str.find") [Value.str _ _, Value.str _ _, Value.int _ _, Value.int _ _]) _ _ _); refine find_empty (by rfl) ?_))

local macro_rules | `(tactic| walk_at "call builtin:str.split") => `(tactic| (k_here; refine Hold.mk ?_))

set_option maxHeartbeats 8000000 in
theorem ellipsis_c (w : World) (mean : ExcName → Option Value) (mg mb : PySem.Str → Option Value) (aw g : List Nat) (t u : Tok) (ha : ∀ x ∈ aw, x ≠ 46) (hz : aw.length ≤ 1000) (hg : g.length ≤ 1000) (hp : aw <+: g) (hs : aw <:+ g) :
    Ctr w mean mg mb 28 4 (fun _ => True) [.str (mkS (aw ++ 46 :: 46 :: 46 :: aw)) t, .str (mkS g) u] (fun r _ _ => r = .bool (decide (aw = [] ∨ 2 * aw.length ≤ g.length))) := by
  w_top off
  refine fill ?_
  unfold Ctr KK
  k_fill
  intro _ _ dp un cn cs a ccd cl outer A₀ base h₀ L m s Q E B F X T hk hpre hd hu hret
  refine wpAny_call ?_
  k_dflt (refine' code_def0 (binds := [(PySem.Str.ofString "want", .str (mkS (aw ++ 46 :: 46 :: 46 :: aw)) t), (PySem.Str.ofString "got", .str (mkS g) u)]) ?k1 ?k2 ?k3 ?k5 ?kA ?kF ?kK ?k6 ?k7 ?k8 ?k9 ?kB ?_ ?c2 ?c3 ?c4 ?c5; (case kA => exact rfl); (case kF => exact rfl); (case kK => assumption); (case k1 => k_asm); (case k2 => k_asm); (case k3 => k_asm); (case k5 => k_asm); (case k6 => k_is); (case k7 => k_is); (case k8 => ktr_room); (case k9 => exact BindsTo.of_eq rfl); (case c5 => decide); (case kB => exact locs rfl); (case c2 => exact rfl); (case c3 => exact rfl); (case c4 => exact rfl); k_whole; intro L' h' F' N' B' X' T'; (simp only [List.foldl_cons, List.foldl_nil, List.length_cons, List.length_nil] at F' ⊢); (try k_fold))
  have hwl : (mkS (aw ++ 46 :: 46 :: 46 :: aw)).length = aw.length + (3 + aw.length) := by rw [mkS_len, List.length_append]; simp only [List.length_cons]; omega
  have hgl : (mkS g).length = g.length := mkS_len g
  have hal : (mkS aw).length = aw.length := mkS_len aw
  k_steps
  · rename (List.isEmpty _ = true) => hemp
    rw [dots_eq, has_dots' ha] at hemp
    exact absurd hemp (by decide)
  · rename (List.isEmpty _ = false) => hemp
    clear hemp
    rename Fr _ _ _ _ => F5
    rename News _ _ _ _ => N5
    refine Hold.in ?_
    rw [dots_eq]
    refine KSpl.split1 F5 N5 (by rfl) (fun D l h5 k5 hl5 hS5 F6 N6 hlt => ?_) (by rw [hwl, sizeLine_eq]; omega)
    rw [split_dots' ha] at hl5
    clear hS5 F5 N5
    match l, hl5 with
    | [(x1, t1), (x2, t2)], hl5 =>
      have e1 : x1 = mkS aw := by simpa using congrArg List.head? hl5
      have e2 : x2 = mkS aw := by simpa using congrArg List.getLast? hl5
      subst e1 e2
      clear hl5
      dsimp only [strValues] at N6
      have hpw : Txt.startswith (mkS g) (mkS aw) = true := starts_of hp
      have hsw : Txt.endswith (mkS g) (mkS aw) = true := ends_of hs
      have hle := hp.length_le
      by_cases h0 : aw = []
      · subst h0
        k_steps
        all_goals (first
          | (exfalso; rename (_ ≠ (0 : Int)) => hx; exact hx rfl)
          | (dsimp only; exact hret _ _ _ (Fr.keep (by assumption)) (by simp)))
      · have hpos : 0 < aw.length := List.length_pos_iff.mpr h0
        have hawl : (mkS aw).length ≠ 0 := by rw [hal]; omega
        k_steps
        all_goals dsimp only
        all_goals (first
          | (exfalso; rename (_ = (0 : Int)) => hx; have hx' : (((mkS aw).length : Nat) : Int) = 0 := hx; omega)
          | (rename ((_ : Int) - _ < _) => hx; refine hret _ _ _ (Fr.keep (by assumption)) ?_; rw [hgl, hal] at hx; rw [decide_eq_false]; intro q; rcases q with q | q; · exact h0 q
             · omega)
          | (rename (¬ (_ : Int) - _ < _) => hx; refine hret _ _ _ (Fr.keep (by assumption)) ?_; rw [hgl, hal] at hx; rw [decide_eq_true]; exact .inr (by omega)))

end Mine
end
section
open PySem PySem.W PySem.Calls PyProof.Rows PyProof.Rows.LCg
set_option maxRecDepth 100000
set_option maxHeartbeats 2000000
namespace Mine
section
variable {α : Type} {M : Model} {A : Around} {E : Value → Shared → Prop} {s : Shared} {env : Env}
theorem wpF_noE {m : Sem α} {k : Value → Sem Unit} {Q : α → Shared → Prop} (h : wpF M A m Q (fun _ _ => False) s) : wpF M A (m.onRaise k) Q E s :=
  wpF_onRaise (wpF_mono h (fun _ _ q => q) fun _ _ f => f.elim)
theorem codeF_loop' {c : Code} {R : Result → Shared → Prop} (ok : okCode c = true) (hq : c.quiet = true) (I : Nat → Shared → Prop)
    (turn : ∀ n s, I n s → wpF M (A.under c) (M.den c)
      (fun fin s' => match fin with
        | .done f => R (.ok f) s'
        | .again c' => (c' = c ∧ ∃ m, m < n ∧ I m s') ∨ (c'.quiet = true ∧ codeF M A c' R s')) (fun e s' => R (.error e) s') s)
    (n : Nat) (h : I n s) : codeF M A c R s := by
  induction n using Nat.strongRecOn generalizing s with
  | ind n ih =>
    refine codeF_of_tree ok (wpF_mono (turn n s h) (fun fin s' hf => ?_) fun _ _ h' => h')
    cases fin with
    | done f => exact hf
    | again c' =>
      rcases hf with ⟨rfl, m, hm, hI⟩ | hf
      · exact ⟨hq, ih m hm hI⟩
      · exact hf
end
section
variable {prog : Program} {w : World} {A : Around} {E : Value → Shared → Prop} {s : Shared} {env : Env}
theorem codeF_forLoop {R : Result → Shared → Prop} {target it body} (I : Nat → Shared → Prop)
    (turn : ∀ n s, I n s → wpAny (model prog w) A (pyNext it) (fun r s₁ => match r with
      | none => R (.ok .next) s₁
      | some v => wpAny (model prog w) A (letOwnedTupleGo target it v) (fun _ s₁' => wpAny (model prog w) A (assign target env v) (fun _ s₂ => wpF (model prog w) A (execs body env) (fun f s₃ => match f with
          | .next | .cont => ∃ m, m < n ∧ I m s₃
          | .brk => R (.ok .next) s₃
          | .ret v => R (.ok (.ret v)) s₃) (fun _ _ => False) s₂) (fun _ _ => False) s₁') (fun _ _ => False) s₁) (fun _ _ => False) s)
    (n : Nat) (h : I n s) : codeF (model prog w) A (.forLoop target it body [] env) R s := by
  refine codeF_loop' rfl rfl I (fun n s hI => ?_) n h
  show wpF _ _ ((forTurn target it body [] env).onRaise (fun x => do noteFrame x env; theTreesLotGoes x)) _ _ s
  refine wpF_noE ?_
  simp only [forTurn]
  refine wpF_bind (wpF_standAt (wpF_bind (wpF_noE (wpF_of_any (wpAny_mono (turn n s hI) (fun r s₁ h₁ => ?_) fun _ _ h' => h')))))
  cases r with
  | none => exact wpF_pure (.inr ⟨rfl, codeF_of_any (codeAny_block (wpAny_execs_nil h₁))⟩)
  | some v =>
    refine wpF_bindA (wpAny_mono h₁ (fun _ s₁' h₁' => ?_) fun _ _ h' => h')
    refine wpF_bindA (wpAny_mono h₁' (fun _ s₂ h₂ => wpF_bind (wpF_mono h₂ (fun f s₃ h₃ => ?_) fun _ _ h' => h')) fun _ _ h' => h')
    cases f with
    | next => exact wpF_pure (.inl ⟨rfl, h₃⟩)
    | cont => exact wpF_pure (.inl ⟨rfl, h₃⟩)
    | brk => exact wpF_pure h₃
    | ret v => exact wpF_pure h₃
theorem execF_For {target iter : Expr} {body : List Stmt} {pos : Pos} {Q : Flow → Shared → Prop}
    (h : wpAny (model prog w) A (eval iter env) (fun x s₁ => wpAny (model prog w) A (pyIter x) (fun it s₂ => codeF (model prog w) A (.forLoop target it body [] env) (fun r s' => match r with | .ok f => Q f s' | .error _ => False) s₂) E s₁) E s)
    (hs : ∀ x, foldedSetIterable iter env x = pure x := by intro _; rfl) :
    wpF (model prog w) A (exec (.For target iter body [] pos) env) Q E s := by
  rw [exec_For]
  refine wpF_bind (wpF_standAt (wpF_bindA (wpAny_mono h (fun x s₁ h₁ => wpF_bindA (wpAny_of_eq (hs x) (wpF_bind (wpF_standAt (wpF_bindA (wpAny_holding (wpAny_mono h₁ (fun it s₂ h₂ => ?_) fun _ _ h' => h'))))))) fun _ _ h' => h')))
  unfold runOwn
  refine wpF_noE (wpF_run ?_)
  exact codeF_mono h₂ fun r s r' => by
    cases r with
    | ok f => exact r'
    | error e => exact r'.elim

def EnRest (prog : Program) (w : World) (A : Around) (h₀ : Heap) (env : Env) (x x₂ : PySem.Str) (body : List Stmt) (Q : Flow → Shared → Prop) (s : Shared) (e it : Addr) (lp : Addr × Obj) : List Value → Nat → (PySem.Str → Option Value) → List (Addr × Obj) → Prop
  | [], _, m, news => ∀ (h : Heap) (tk : Nat), Fr h₀ env.locals h m → News h₀ env.locals h news → Q .next { s with heap := h, toks := tk }
  | v :: r, i, m, news => ∀ (t : Tok) (oE oI : Obj) (h : Heap) (tk : Nat), Fr h₀ env.locals h (up (up m x (some (.int (i : Int) t))) x₂ (some v)) → News h₀ env.locals h ((e, oE) :: (it, oI) :: news) →
      wpF (model prog w) A (execs body env) (fun f s₃ => match f with
        | .next | .cont => ∃ h' tk' m' news', s₃ = { s with heap := h', toks := tk' } ∧ Fr h₀ env.locals h' m' ∧ News h₀ env.locals h' ((e, oE) :: (it, oI) :: news') ∧ lp ∈ news' ∧ (∀ p ∈ news', p.1 ∉ [e, it]) ∧ EnRest prog w A h₀ env x x₂ body Q s e it lp r (i + 1) m' news'
        | .brk => Q .next s₃
        | .ret v => Q (.ret v) s₃) (fun _ _ => False) { s with heap := h, toks := tk }
def LoopEnF (prog : Program) (w : World) (A : Around) (h₀ : Heap) (env : Env) (x x₂ : PySem.Str) (body : List Stmt) (Q : Flow → Shared → Prop) (xv : Value) (s₁ : Shared) : Prop :=
  ∃ (e it l : Addr) (lo : Obj) (nc : Nat) (old : Value) (news : List (Addr × Obj)) (vs : List Value) (m : PySem.Str → Option Value), xv = .ref e ∧ A.handled = none ∧ IsEnum s₁.heap e it 0 old ∧ s₁.heap.IsListIter it l 0 ∧ (l, lo) ∈ news ∧ lo.cls = .type "list" ∧ lo.data = .seq vs.toArray nc ∧ e ≠ it ∧
    (∀ p ∈ news, p.1 ∉ [e, it]) ∧ env.locals ∉ [e, it] ∧ (∀ b ∈ [e, it], h₀.get? b = none) ∧ Fr h₀ env.locals s₁.heap m ∧ News h₀ env.locals s₁.heap news ∧ EnRest prog w A h₀ env x x₂ body Q s₁ e it (l, lo) vs 0 m news

theorem For_EnF {x x₂ : PySem.Str} {px px₂ tp pos : Pos} {kk} {iter : Expr} {body : List Stmt} {Q : Flow → Shared → Prop} {h₀ : Heap} (hx : env.kindOf x = some .local) (hx₂ : env.kindOf x₂ = some .local) (hxx : x ≠ x₂)
    (hp : (env.scope.kind == .class || (env.scope.kind == .module && env.locals != env.globals)) = false)
    (h : wpAny (model prog w) A (eval iter env) (LoopEnF prog w A h₀ env x x₂ body Q) E s) (hs : ∀ x, foldedSetIterable iter env x = pure x := by intro _; rfl) :
    wpF (model prog w) A (exec (.For (.Tuple [.Name x px, .Name x₂ px₂] kk tp) iter body [] pos) env) Q E s := by
  refine execF_For (wpAny_mono h (fun xv s₁ h₁ => ?_) fun _ _ e => e) hs
  obtain ⟨e, it, l, lo, nc, old, news, vs, m, rfl, hh, he, hit, hm, hc, hd, hei, off, hLw, hw₀, F, N, R⟩ := h₁
  refine wpAny_pyIter_enum he ?_
  have hle : l ≠ e := fun q => off _ hm (by rw [show ((l, lo) : Addr × Obj).1 = e from q]; simp)
  have hli : l ≠ it := fun q => off _ hm (by rw [show ((l, lo) : Addr × Obj).1 = it from q]; simp)
  have W := WalksT.enumerate (prog := prog) (w := w) hh e it l hei hle hli vs.toArray
  have hns : vs.toArray.size = vs.length := by simp
  rw [hns] at W
  have hl0 : s₁.heap.IsList l vs.toArray := ⟨lo, (N _ hm).1, hc, nc, hd⟩
  have hLel : ∀ b ∈ [e, it, l], b ≠ env.locals := fun b hb => by
    simp only [List.mem_cons, List.not_mem_nil, or_false] at hb
    rcases hb with rfl | rfl | rfl
    · exact fun q => hLw (by rw [← q]; simp)
    · exact fun q => hLw (by rw [← q]; simp)
    · exact (N _ hm).2.1
  refine codeF_forLoop
    (fun k s' => ∃ h' tk i m' news', s' = { s₁ with heap := h', toks := tk } ∧ i ≤ vs.length ∧ k = vs.length + 1 - i ∧ ((∃ old, IsEnum h' e it i old) ∧ h'.IsListIter it l i ∧ h'.IsList l vs.toArray) ∧ Fr h₀ env.locals h' m' ∧ News h₀ env.locals h' news' ∧ (l, lo) ∈ news' ∧
      (∀ p ∈ news', p.1 ∉ [e, it]) ∧ EnRest prog w A h₀ env x x₂ body Q s₁ e it (l, lo) (vs.drop i) i m' news') ?_ (vs.length + 1)
    ⟨s₁.heap, s₁.toks, 0, m, news, rfl, Nat.zero_le _, rfl, ⟨⟨_, he⟩, hit, hl0⟩, F, N, hm, off, R⟩
  rintro k s' ⟨h', tk, i, m', news', rfl, hi, rfl, hst', F', N', hm', off', R'⟩
  by_cases hlt : i < vs.length
  · refine W.item i _ _ _ hlt hst' fun T vals h₂ tk₂ hPt hT hIT hMid hk₂ => ?_
    obtain ⟨t, v, hv, rfl⟩ := hPt
    refine W.go _ _ _ i T _ _ _ hMid fun h₂' hst₂ hk₂' => ?_
    have hTw : T ∉ [e, it] := W.apart _ _ _ hMid
    have ht : IsTup h₂' T #[.int (i : Int) t, v] := by
      obtain ⟨oT, q1, q2⟩ := hIT
      exact ⟨oT, hk₂' _ _ hTw q1, q2⟩
    have F₂ := keep_off (keep_off F' hk₂ hLw hw₀) hk₂' hLw hw₀
    have N₂ := news_off (news_off N' hk₂ off') hk₂' off'
    refine assign_Tuple_tuple hh ht rfl rfl fun h₅ hx₅ => ?_
    have he' : ∀ b o, h₂'.get? b = some o → h₅.get? b = some o := fun b o q => hx₅ b o (Nat.ne_of_lt (Heap.lt_size q)) q
    have F₅ := F₂.keeps he'
    refine assignInOrder_cons (wpAny_assign_Name (wpAny_storeName_local hx F₅.ns (fun h₆ hn₆ hs₆ => ?_) hp))
    refine assignInOrder_cons (wpAny_assign_Name (wpAny_storeName_local hx₂ hn₆ (fun h₃ hn₃ hs₃ => ?_) hp))
    refine assignInOrder_nil ?_
    have old3 : ∀ b o, b ≠ env.locals → h₂'.get? b = some o → h₃.get? b = some o := fun b o hb q => hs₃.extBut b o hb (hs₆.extBut b o hb (he' b o q))
    have hst₃ := W.frame _ _ _ hst₂ fun b hb o q => old3 b o (hLel b hb) q
    obtain ⟨⟨oldv, hE₃'⟩, ⟨oI, hI₃, hI₃'⟩, hL₃⟩ := hst₃
    obtain ⟨oE, hE₃, hEE⟩ : ∃ oE, h₃.get? e = some oE ∧ ∀ h : Heap, h.get? e = some oE → IsEnum h e it ((i + 1 : Nat) : Int) oldv := ⟨_, hE₃', fun h q => q⟩
    have hL₀ : h₀.get? env.locals = none := Heap.get?_none_of_le F'.above
    have F₃ : Fr h₀ env.locals h₃ (up (up m' x (some (.int (i : Int) t))) x₂ (some v)) :=
      ⟨hn₃, fun b o q => old3 b o (fun z => by rw [z, hL₀] at q; cases q) (F₂.keep b o q), F'.above⟩
    have N₃ : News h₀ env.locals h₃ ((e, oE) :: (it, oI) :: news') := fun p hp => by
      rcases List.mem_cons.mp hp with rfl | hp
      · exact ⟨hE₃, fun q => hLw (by rw [show e = env.locals from q]; simp), hw₀ _ (by simp)⟩
      rcases List.mem_cons.mp hp with rfl | hp
      · exact ⟨hI₃, fun q => hLw (by rw [show it = env.locals from q]; simp), hw₀ _ (by simp)⟩
      · exact ⟨old3 _ _ (N₂ p hp).2.1 (N₂ p hp).1, (N₂ p hp).2⟩
    have hdrop : vs.drop i = v :: vs.drop (i + 1) := by
      rw [List.drop_eq_getElem_cons hlt]
      congr 1
      have hv' : vs[i]? = some v := by simpa using hv
      exact Option.some.inj ((List.getElem?_eq_getElem hlt).symm.trans hv')
    rw [hdrop] at R'
    refine wpF_mono (R' t oE oI h₃ _ F₃ N₃) (fun f s₃ h₄ => ?_) fun _ _ q => q
    have fin : ∀ s₃, (∃ h' tk' m' news₄, s₃ = { s₁ with heap := h', toks := tk' } ∧ Fr h₀ env.locals h' m' ∧ News h₀ env.locals h' ((e, oE) :: (it, oI) :: news₄) ∧ (l, lo) ∈ news₄ ∧ (∀ p ∈ news₄, p.1 ∉ [e, it]) ∧ EnRest prog w A h₀ env x x₂ body Q s₁ e it (l, lo) (vs.drop (i + 1)) (i + 1) m' news₄) →
        ∃ m, m < vs.length + 1 - i ∧ ∃ h' tk i m' news', s₃ = { s₁ with heap := h', toks := tk } ∧ i ≤ vs.length ∧ m = vs.length + 1 - i ∧ ((∃ old, IsEnum h' e it i old) ∧ h'.IsListIter it l i ∧ h'.IsList l vs.toArray) ∧ Fr h₀ env.locals h' m' ∧ News h₀ env.locals h' news' ∧ (l, lo) ∈ news' ∧
          (∀ p ∈ news', p.1 ∉ [e, it]) ∧ EnRest prog w A h₀ env x x₂ body Q s₁ e it (l, lo) (vs.drop i) i m' news' := by
      rintro s₃ ⟨h₄, tk₄, m₄, news₄, rfl, F₄, N₄, hm₄, off₄, R₄⟩
      have zE := (N₄ _ (.head _)).1
      have zI := (N₄ _ (.tail _ (.head _))).1
      have N₄' : News h₀ env.locals h₄ news₄ := fun p hp => N₄ p (.tail _ (.tail _ hp))
      exact ⟨vs.length + 1 - (i + 1), by omega, h₄, tk₄, i + 1, m₄, news₄, rfl, hlt, rfl, ⟨⟨_, hEE _ zE⟩, ⟨oI, zI, hI₃'⟩, ⟨lo, (N₄' _ hm₄).1, hc, nc, hd⟩⟩, F₄, N₄', hm₄, off₄, R₄⟩
    cases f with
    | next => exact fin _ h₄
    | cont => exact fin _ h₄
    | brk => exact h₄
    | ret v => exact h₄
  · obtain rfl : i = vs.length := Nat.le_antisymm hi (Nat.not_lt.mp hlt)
    refine W.done _ _ _ hst' fun h₂ tk₂ hk₂ => ?_
    rw [List.drop_length] at R'
    exact R' h₂ tk₂ (keep_off F' hk₂ hLw hw₀) (news_off N' hk₂ off')
theorem callF_En {x x₂ : PySem.Str} {body : List Stmt} {l : Addr} {lo : Obj} {vs : List Value} {nc : Nat} {news : List (Addr × Obj)} {m : PySem.Str → Option Value} {h₀ : Heap} {Q : Flow → Shared → Prop}
    (hh : A.handled = none) (hm : (l, lo) ∈ news) (hc : lo.cls = .type "list") (hd : lo.data = .seq vs.toArray nc) (F : Fr h₀ env.locals s.heap m) (N : News h₀ env.locals s.heap news)
    (R : ∀ h' e it, (∀ p ∈ news, p.1 < it) → it < e → EnRest prog w A h₀ env x x₂ body Q { s with heap := h' } e it (l, lo) vs 0 m news) :
    wpAny (model prog w) A (call (.type "enumerate") [.ref l]) (LoopEnF prog w A h₀ env x x₂ body Q) E s := by
  have hl : s.heap.IsList l vs.toArray := ⟨lo, (N _ hm).1, hc, nc, hd⟩
  have hLs : env.locals < s.heap.objs.size := F.ns.lt
  refine call_enumerate_list hl fun h' hE hI hsz' hk => ?_
  have hnew : ∀ b, s.heap.objs.size ≤ b → h₀.get? b = none := fun b hb => by
    cases q : h₀.get? b with
    | none => rfl
    | some o => exact absurd (Heap.lt_size (F.keep _ _ q)) (Nat.not_lt.mpr hb)
  refine ⟨s.heap.objs.size + 1, s.heap.objs.size, l, lo, nc, _, news, vs, m, rfl, hh, hE, hI, hm, hc, hd, Nat.succ_ne_self _, fun p hp q => ?_, fun q => ?_, fun b hb => ?_, F.keeps hk, N.grown hk, R h' _ _ (fun p hp => Heap.lt_size (N p hp).1) (Nat.lt_succ_self _)⟩
  · have hlp : @LT.lt Nat _ p.1 s.heap.objs.size := Heap.lt_size (N p hp).1
    simp only [List.mem_cons, List.not_mem_nil, or_false] at q
    rcases q with q | q
    · exact absurd hlp (by rw [show p.1 = s.heap.objs.size + 1 from q]; omega)
    · exact absurd hlp (by rw [show p.1 = s.heap.objs.size from q]; omega)
  · simp only [List.mem_cons, List.not_mem_nil, or_false] at q
    rcases q with q | q
    · exact absurd hLs (by rw [show env.locals = s.heap.objs.size + 1 from q]; exact Nat.not_lt.mpr (Nat.le_succ _))
    · exact absurd hLs (by rw [show env.locals = s.heap.objs.size from q]; exact Nat.lt_irrefl _)
  · simp only [List.mem_cons, List.not_mem_nil, or_false] at hb
    rcases hb with rfl | rfl
    · exact hnew _ (Nat.le_succ _)
    · exact hnew _ (Nat.le_refl _)
end
end Mine
end
section
open PySem PySem.W PySem.Calls PyProof.Rows PyProof.Rows.LCg
namespace Mine
section
variable {prog : Program} {w : World} {A : Around} {h₀ : Heap} {env : Env} {x x₂ : PySem.Str} {body : List Stmt} {Q : Flow → Shared → Prop} {s : Shared} {e it : Addr} {lp : Addr × Obj} {m : PySem.Str → Option Value} {news : List (Addr × Obj)} {i : Nat}
theorem EnRest.zero (h : ∀ (h : Heap) (tk : Nat), Fr h₀ env.locals h m → News h₀ env.locals h news → Q .next { s with heap := h, toks := tk }) : EnRest prog w A h₀ env x x₂ body Q s e it lp [] i m news := h
theorem EnRest.succ {v : Value} {r : List Value} (h : ∀ (t : Tok) (oE oI : Obj) (h : Heap) (tk : Nat), Fr h₀ env.locals h (up (up m x (some (.int (i : Int) t))) x₂ (some v)) → News h₀ env.locals h ((e, oE) :: (it, oI) :: news) →
      wpF (model prog w) A (execs body env) (fun f s₃ => match f with
        | .next | .cont => ∃ h' tk' m' news', s₃ = { s with heap := h', toks := tk' } ∧ Fr h₀ env.locals h' m' ∧ News h₀ env.locals h' ((e, oE) :: (it, oI) :: news') ∧ lp ∈ news' ∧ (∀ p ∈ news', p.1 ∉ [e, it]) ∧ EnRest prog w A h₀ env x x₂ body Q s e it lp r (i + 1) m' news'
        | .brk => Q .next s₃
        | .ret v => Q (.ret v) s₃) (fun _ _ => False) { s with heap := h, toks := tk }) : EnRest prog w A h₀ env x x₂ body Q s e it lp (v :: r) i m news := h
theorem cut_next {M : Model} {t : Sem Flow} {Q : Flow → Shared → Prop} {E : Value → Shared → Prop} {s s₁ : Shared} {L : Addr} {o1 o2 : Addr × Obj} {news : List (Addr × Obj)} (mm : Tok → Option Value → Option Value → Option Value → Option Value → PySem.Str → Option Value)
    (hQ : ∀ h' tk' tt vP vL vG vT, Fr h₀ L h' (mm tt vP vL vG vT) → News h₀ L h' (o1 :: o2 :: news) → Q .next { s₁ with heap := h', toks := tk' })
    (h : ∀ Q' : Flow → Shared → Prop, (∀ h' tk' tt vP vL vG vT, Fr h₀ L h' (mm tt vP vL vG vT) → News h₀ L h' (o1 :: o2 :: news) → Q' .next { s₁ with heap := h', toks := tk' }) → wpF M A t Q' E s) : wpF M A t Q E s := h Q hQ
end
end Mine
end
section
open PySem PySem.W PySem.Calls PyProof.Rows
namespace Mine
section
variable {prog : Program} {w : World} {A : Around} {E : Value → Shared → Prop} {s : Shared} {env : Env}
theorem MethodCallF {o : PySem.Expr} {name : PySem.Str} {apos pos : Pos} {args : List PySem.Expr} {pl : Sem Bool} {Q : Value → Shared → Prop}
    (h : wpF (model prog w) A (eval o env) (fun ov s₁ => wpAny (model prog w) A (getMethod ov name pl) (fun fx s₂ => wpAny (model prog w) A (callWith pos fx.1 fx.2 (backTo pos (starEach args env)) []) Q E s₂) E s₁) E s)
    (he : eval (.Call (.Attribute o name apos) args [] pos) env = (do
      let ov ← eval o env
      standAt apos.atName
      let (f, first) ← holding [ov] (getMethod ov name pl)
      callWith pos f first (backTo pos (starEach args env)) []) := by rfl) :
    wpF (model prog w) A (eval (.Call (.Attribute o name apos) args [] pos) env) Q E s := by
  rw [he]
  refine wpF_bind (wpF_mono h (fun ov s₁ h₁ => ?_) fun _ _ e => e)
  refine wpF_bind (wpF_standAt (wpF_bind (wpF_holding (wpF_of_any (wpAny_mono h₁ (fun fx s₂ h₂ => ?_) fun _ _ e => e)))))
  exact wpF_of_any h₂
end
end Mine
end
section
open PySem PySem.W PySem.Calls PyProof.Rows
set_option maxRecDepth 100000
namespace Mine
section
variable {prog : Program} {w : World} {A : Around} {s : Shared} {h₀ h h' : Heap} {L D : Addr} {m : PySem.Str → Option Value} {news : List (Addr × Obj)} {o : Obj}
theorem news_add (F : Fr h₀ L h m) (N : News h₀ L h' news) (hn : h.get? D = none) (hs : h'.get? D = some o) : News h₀ L h' ((D, o) :: news) := by
  intro p hp
  rcases List.mem_cons.mp hp with rfl | hp
  · refine ⟨hs, fun q => ?_, ?_⟩
    · obtain ⟨oL, q1, _⟩ := LCg.ns_obj F.ns
      rw [show D = L from q, q1] at hn
      cases hn
    · show h₀.get? D = none
      cases q : h₀.get? D with
      | none => rfl
      | some o' => rw [F.keep _ _ q] at hn; cases hn
  · exact N p hp
theorem kw_of (x : Int) : ∃ kw : Nat, 2 + x.fmod 2 = (kw : Int) ∧ (kw = 2 ∨ kw = 3) := by
  rw [Int.fmod_eq_emod_of_nonneg _ (by omega)]
  have h : x % 2 = 0 ∨ x % 2 = 1 := by omega
  rcases h with h | h
  · exact ⟨2, by rw [h]; rfl, .inl rfl⟩
  · exact ⟨3, by rw [h]; rfl, .inr rfl⟩
theorem fmod_range (l : List Int) : ∀ x ∈ List.map (fun k' : Int => k'.fmod 6) l, 0 ≤ x ∧ x < 6 := by
  intro x hx
  obtain ⟨y, _, rfl⟩ := List.mem_map.mp hx
  show 0 ≤ y.fmod 6 ∧ y.fmod 6 < 6
  rw [Int.fmod_eq_emod_of_nonneg _ (by omega)]
  omega
theorem ints_of : ∀ {ys : List Value}, (∀ y ∈ ys, ∃ n t, y = .int n t) → ∃ ns, IntsAre ys ns
  | [], _ => ⟨[], .nil⟩
  | y :: ys, h => by
    obtain ⟨n, t, rfl⟩ := h y (.head _)
    obtain ⟨ns, q⟩ := ints_of fun z hz => h z (.tail _ hz)
    exact ⟨n :: ns, .cons n t q⟩
theorem call_fullF {R : Result → Shared → Prop} {name : PySem.Str} {params : Arguments} {body : List Stmt} {scope : Scope}
    {dV kV pm cd doc : Value} {a : Addr} {o : Obj} {args : Args} {binds : List (PySem.Str × Value)}
    (hroom : A.depth < recursionLimit) (ho : s.heap.get? a = some o) (hdata : o.data = .func { docDef name params body scope pm cd doc with defaults := dV, kwdefaults := kV }) (hlim : s.heap.NoLimit) (hcd : s.heap.CodeRec cd name)
    (hbind : BindsTo s { docDef name params body scope pm cd doc with defaults := dV, kwdefaults := kV } args binds)
    (hloc : ∀ x ∈ binds, scope.names.lookup x.1 = some .local)
    (h : ∀ h₁, Fr s.heap s.heap.objs.size h₁ (binds.foldl (fun m p => fun y => if y = p.1 then some p.2 else m y) (fun _ => none)) →
      wpF (model prog w) (A.deeper (envOf name scope s.heap.objs.size a cd)) (execs body (envOf name scope s.heap.objs.size a cd))
        (fun f s' => R (.ok (.ret (match f with | .ret v => v | _ => .none))) s')
        (fun e s' => wpAny (model prog w) (A.deeper (envOf name scope s.heap.objs.size a cd)) (leaving (envOf name scope s.heap.objs.size a cd) e)
          (fun _ s'' => R (.error e) s'') (fun e' s'' => R (.error e') s'') s')
        { s with heap := h₁, toks := s.toks + binds.length })
    (hco : scope.isCoroutine = false := by rfl) (hgen : scope.isGenerator = false := by rfl) (hk : scope.kind = .function := by rfl)
    (hcell : ∀ x ∈ scope.names, x.2 ≠ .cell := by decide) :
    codeF (model prog w) A (.call (.ref a) args) R s := by
  refine codeF_call_function (fd := { docDef name params body scope pm cd doc with defaults := dV, kwdefaults := kV }) (body := body) hroom ho hdata hco hgen rfl hcd (hbind _ _ _ _ ?_)
  refine wpAny_newFunctionEnv hcell hloc (fun h₁ hns hsb => ⟨hlim.fresh _ hsb, codeF_func ?_⟩) hk
  have hk₁ : ∀ b o, s.heap.get? b = some o → h₁.get? b = some o := fun b o e => hsb.extBut b o (Nat.ne_of_lt (Heap.lt_size e)) (Heap.get?_push_of_some _ e)
  have e := ups_eq binds
  exact h h₁ ⟨by rw [← show (fun x => binds.reverse.lookup x) = _ from e]; exact hns, hk₁, Nat.le_refl _⟩
theorem wpF_clean {α : Type} {M : Model} {A : Around} {t : Sem α} {Q : α → Shared → Prop} {E : Value → Shared → Prop} {s' s₁ : Shared} {h₀ h' : Heap} {L : Addr} {m : PySem.Str → Option Value} (_F : Fr h₀ L h' m)
    (e : s' = { s₁ with heap := h', toks := s'.toks }) (h : ∀ tk, wpF M A t Q E { s₁ with heap := h', toks := tk }) : wpF M A t Q E s' := by rw [e]; exact h _
theorem cut_end {M : Model} {A : Around} {t : Sem Flow} {Q : Flow → Shared → Prop} {E : Value → Shared → Prop} {s s₁ : Shared}
    (hQ : ∀ h' tk', (∀ b o, s₁.heap.get? b = some o → h'.get? b = some o) → Q (.ret (.bool true)) { s₁ with heap := h', toks := tk' })
    (h : ∀ (Q' : Flow → Shared → Prop) (E' : Value → Shared → Prop), (∀ h' tk', (∀ b o, s₁.heap.get? b = some o → h'.get? b = some o) → Q' (.ret (.bool true)) { s₁ with heap := h', toks := tk' }) → wpF M A t Q' E' s) : wpF M A t Q E s := h Q E hQ
end
end Mine
end
section
open PySem PySem.W PySem.Calls PyProof.Rows
namespace Mine
/-! closures of words -/
def La (a : Int) (z : List Int) : List Int := muL a z ++ [a]
def P0 (p : List Int) : Prop := p.reverse = p
def trev (p : List Int) : List Int := p.reverse.map theta
def Pt (p : List Int) : Prop := trev p = p
def Cl (P : List Int → Prop) (w r p : List Int) : Prop := w = r ++ p ∧ P p ∧ ∀ r' p', w = r' ++ p' → P p' → r.length ≤ r'.length
theorem muL_app (a : Int) (u v : List Int) : muL a (u ++ v) = muL a u ++ muL a v := by simp [muL]
theorem nuL_app (u v : List Int) : nuL (u ++ v) = nuL u ++ nuL v := by simp [nuL]
theorem nuL_cons (b : Int) (v : List Int) : nuL (b :: v) = nu b ++ nuL v := by simp [nuL]
theorem La_cons (a b : Int) (z : List Int) : La a (b :: z) = mu a b ++ La a z := by simp [La, muL_cons]
theorem La_app (a : Int) (u v : List Int) : La a (u ++ v) = muL a u ++ La a v := by simp [La, muL_app]
theorem psi_cons (a : Int) (v : List Int) : psi (a :: v) = La a (psi v) := rfl
theorem mu_eq (a : Int) : mu a a = [a] := by simp [mu]
theorem mu_ne {a b : Int} (h : b ≠ a) : mu a b = [a, b] := by simp [mu, h]
theorem nu_fix {b : Int} (h : theta b = b) : nu b = [b] := by simp [nu, h]
theorem nu_two {b : Int} (h : theta b ≠ b) : nu b = [b, theta b] := by simp [nu, h]
theorem rev_La (a : Int) : ∀ z : List Int, (La a z).reverse = La a z.reverse
  | [] => rfl
  | b :: z => by
    have e : [a] ++ (mu a b).reverse = mu a b ++ [a] := by
      by_cases h : b = a
      · subst h; rw [mu_eq]; rfl
      · rw [mu_ne h]; rfl
    rw [La_cons, List.reverse_append, rev_La a z, List.reverse_cons]
    unfold La
    rw [muL_snoc, List.append_assoc, e, List.append_assoc]
theorem split_La {a : Int} : ∀ {z r q : List Int}, La a z = r ++ a :: q → ∃ z1 z2, z = z1 ++ z2 ∧ r = muL a z1 ∧ a :: q = La a z2
  | [], r, q, h => by
    have h' : [a] = r ++ a :: q := h
    cases r with
    | nil => exact ⟨[], [], rfl, rfl, h'.symm⟩
    | cons c r =>
      rw [List.cons_append] at h'
      have := (List.cons.inj h').2
      simp at this
  | b :: z, [], q, h => ⟨[], b :: z, rfl, rfl, h.symm⟩
  | b :: z, c :: r, q, h => by
    rw [La_cons] at h
    by_cases hb : b = a
    · subst hb
      rw [mu_eq, List.cons_append, List.cons_append] at h
      obtain ⟨h1, h2⟩ := List.cons.inj h
      obtain ⟨z1, z2, e1, e2, e3⟩ := split_La (z := z) (r := r) (q := q) h2
      exact ⟨b :: z1, z2, by rw [e1]; rfl, by rw [muL_cons, mu_eq, ← h1, e2]; rfl, e3⟩
    · rw [mu_ne hb, List.cons_append, List.cons_append] at h
      obtain ⟨h1, h2⟩ := List.cons.inj h
      cases r with
      | nil =>
        exact absurd (List.cons.inj h2).1 hb
      | cons c' r =>
        obtain ⟨h3, h4⟩ := List.cons.inj h2
        obtain ⟨z1, z2, e1, e2, e3⟩ := split_La (z := z) (r := r) (q := q) h4
        exact ⟨b :: z1, z2, by rw [e1]; rfl, by rw [muL_cons, mu_ne hb, ← h1, ← h3, e2]; rfl, e3⟩
theorem La_head (a : Int) (z : List Int) : ∃ t, La a z = a :: t := by
  cases z with
  | nil => exact ⟨[], rfl⟩
  | cons b z =>
    by_cases hb : b = a
    · subst hb; exact ⟨La b z, by rw [La_cons, mu_eq]; rfl⟩
    · exact ⟨b :: La a z, by rw [La_cons, mu_ne hb]; rfl⟩
theorem La_ne (a : Int) (z : List Int) : La a z ≠ [] := by
  obtain ⟨t, h⟩ := La_head a z
  rw [h]; exact List.cons_ne_nil _ _
theorem La_inj {a : Int} : ∀ {u v : List Int}, La a u = La a v → u = v
  | [], [], _ => rfl
  | [], b :: v, h => by
    exfalso
    rw [La_cons] at h
    have h' : [a] = mu a b ++ La a v := h
    by_cases hb : b = a
    · subst hb
      rw [mu_eq, List.cons_append] at h'
      exact La_ne _ _ (List.cons.inj h').2.symm
    · rw [mu_ne hb, List.cons_append] at h'
      simp at h'
  | b :: u, [], h => by
    exfalso
    rw [La_cons] at h
    have h' : [a] = mu a b ++ La a u := h.symm
    by_cases hb : b = a
    · subst hb
      rw [mu_eq, List.cons_append] at h'
      exact La_ne _ _ (List.cons.inj h').2.symm
    · rw [mu_ne hb, List.cons_append] at h'
      simp at h'
  | b :: u, c :: v, h => by
    rw [La_cons, La_cons] at h
    by_cases hb : b = a
    · by_cases hc : c = a
      · subst hb; subst hc
        rw [La_inj (List.append_cancel_left h)]
      · exfalso
        obtain ⟨t, ht⟩ := La_head a u
        rw [hb, mu_eq, mu_ne hc, ht] at h
        have := (List.cons.inj h).2
        exact hc (List.cons.inj this).1.symm
    · by_cases hc : c = a
      · exfalso
        obtain ⟨t, ht⟩ := La_head a v
        rw [hc, mu_eq, mu_ne hb, ht] at h
        have := (List.cons.inj h).2
        exact hb (List.cons.inj this).1
      · rw [mu_ne hb, mu_ne hc] at h
        have h2 := (List.cons.inj h).2
        obtain ⟨h3, h4⟩ := List.cons.inj h2
        rw [h3, La_inj h4]
theorem P0_La {a : Int} {z : List Int} : P0 (La a z) ↔ P0 z := by
  unfold P0
  rw [rev_La]
  exact ⟨fun h => La_inj h, fun h => by rw [h]⟩
theorem pre_of {r p r' p' : List Int} (h : r ++ p = r' ++ p') (hl : r.length ≤ r'.length) : ∃ e, r' = r ++ e := by
  obtain ⟨e, he⟩ := List.prefix_of_prefix_length_le (⟨p, rfl⟩ : r <+: r ++ p) (⟨p', h.symm⟩ : r' <+: r ++ p) hl
  exact ⟨e, he.symm⟩
theorem head_of_pal {w r' q : List Int} {x c : Int} (h : w ++ [x] = r' ++ c :: q) (hp : P0 (c :: q)) : c = x := by
  have := congrArg List.reverse h
  unfold P0 at hp
  rw [List.reverse_append, List.reverse_append, hp] at this
  exact (List.cons.inj this).1.symm
theorem cl_La {a : Int} {z r p : List Int} (h : Cl P0 z r p) : Cl P0 (La a z) (muL a r) (La a p) := by
  obtain ⟨rfl, hp, hm⟩ := h
  refine ⟨La_app a r p, P0_La.mpr hp, ?_⟩
  intro r' p' e hp'
  cases p' with
  | nil =>
    rw [List.append_nil] at e
    rw [← e, La_app, List.length_append]; omega
  | cons c q =>
    have hc : c = a := head_of_pal e hp'
    subst hc
    obtain ⟨z1, z2, e1, e2, e3⟩ := split_La e
    rw [e3] at hp'
    obtain ⟨f, hf⟩ := pre_of e1 (hm z1 z2 e1 (P0_La.mp hp'))
    rw [e2, hf, muL_app, List.length_append]; omega
theorem before_x {a x : Int} (hx : x ≠ a) : ∀ {z r q : List Int}, muL a z = r ++ x :: q → ∃ r', r = r' ++ [a]
  | [], r, q, h => by
    have h' : [] = r ++ x :: q := h
    simp at h'
  | b :: z, r, q, h => by
    rw [muL_cons] at h
    by_cases hb : b = a
    · subst hb
      rw [mu_eq, List.cons_append, List.nil_append] at h
      cases r with
      | nil => exact absurd (List.cons.inj h).1.symm hx
      | cons c r =>
        rw [List.cons_append] at h
        obtain ⟨h1, h2⟩ := List.cons.inj h
        obtain ⟨r', e⟩ := before_x hx h2
        exact ⟨c :: r', by rw [e]; rfl⟩
    · rw [mu_ne hb, List.cons_append, List.cons_append, List.nil_append] at h
      cases r with
      | nil => exact absurd (List.cons.inj h).1.symm hx
      | cons c r =>
        rw [List.cons_append] at h
        obtain ⟨h1, h2⟩ := List.cons.inj h
        cases r with
        | nil => exact ⟨[], by rw [← h1]; rfl⟩
        | cons c' r =>
          rw [List.cons_append] at h2
          obtain ⟨h3, h4⟩ := List.cons.inj h2
          obtain ⟨r', e⟩ := before_x hx h4
          exact ⟨c :: c' :: r', by rw [e]; rfl⟩
theorem P0_wrap {a : Int} {p : List Int} : P0 (a :: (p ++ [a])) ↔ P0 p := by
  unfold P0
  rw [List.reverse_cons, List.reverse_append]
  constructor
  · intro h
    have h2 := (List.cons.inj h).2
    exact List.append_cancel_right h2
  · intro h
    rw [h]; rfl
theorem P0_one (x : Int) : P0 [x] := rfl
theorem cl_step {a x : Int} {u r p : List Int} (h : Cl P0 (u ++ [x]) r p) : ∃ r1 p1, Cl P0 (La a u ++ [x]) r1 p1 ∧ La a u ++ [x] ++ r1.reverse = La a (u ++ [x] ++ r.reverse) := by
  by_cases hx : x = a
  · subst hx
    have e : La x u ++ [x] = La x (u ++ [x]) := by rw [La_app]; simp [La, muL, mu]
    rw [e]
    refine ⟨_, _, cl_La h, ?_⟩
    rw [La_app x (u ++ [x]) r.reverse, ← rev_La]
    unfold La
    rw [List.reverse_append, List.append_assoc]
    rfl
  · have e : La a u ++ [x] = muL a (u ++ [x]) := by rw [muL_snoc, mu_ne hx]; simp [La]
    obtain ⟨hz, hp, hm⟩ := h
    have hru : r.length ≤ u.length := hm u [x] rfl (P0_one x)
    cases p with
    | nil =>
      have := congrArg List.length hz
      simp at this
      omega
    | cons c p0 =>
      obtain rfl : c = x := head_of_pal hz hp
      refine ⟨muL a r ++ [a], c :: muL a p0, ⟨?_, ?_, ?_⟩, ?_⟩
      · rw [e, hz, muL_app, muL_cons, mu_ne hx]; simp
      · have h1 : P0 (La a (c :: p0)) := P0_La.mpr hp
        rw [La_cons, mu_ne hx] at h1
        exact P0_wrap.mp h1
      · intro r' p' e' hp'
        cases p' with
        | nil =>
          rw [List.append_nil] at e'
          rw [← e', e, hz, muL_app, muL_cons, mu_ne hx]
          simp only [List.length_append, List.length_cons, List.length_nil]; omega
        | cons d q =>
          obtain rfl : d = c := head_of_pal e' hp'
          rw [e] at e'
          obtain ⟨r2, rfl⟩ := before_x hx e'
          have e2 : La a (u ++ [d]) = r2 ++ a :: (d :: q ++ [a]) := by
            unfold La
            rw [e']; simp
          obtain ⟨z1, z2, e3, e4, e5⟩ := split_La e2
          have h2 : P0 (La a z2) := by rw [← e5]; exact P0_wrap.mpr hp'
          obtain ⟨f, hf⟩ := pre_of (hz.symm.trans e3) (hm z1 z2 e3 (P0_La.mp h2))
          rw [e4, hf, muL_app]
          simp only [List.length_append, List.length_cons, List.length_nil]; omega
      · rw [e, La_app, ← rev_La]; rfl
theorem cl_psi : ∀ (v : List Int) (x : Int), ∃ r p, Cl P0 (psi v ++ [x]) r p ∧ psi (v ++ [x]) = psi v ++ [x] ++ r.reverse
  | [], x => ⟨[], [x], ⟨rfl, rfl, fun _ _ _ _ => Nat.zero_le _⟩, rfl⟩
  | a :: v, x => by
    obtain ⟨r, p, h, e⟩ := cl_psi v x
    obtain ⟨r1, p1, h1, e1⟩ := cl_step (a := a) h
    exact ⟨r1, p1, h1, by rw [List.cons_append, psi_cons, psi_cons, e, e1]⟩
theorem P0_psi : ∀ v : List Int, P0 (psi v)
  | [] => rfl
  | a :: v => P0_La.mpr (P0_psi v)

/-! with partners -/
theorem theta_theta (b : Int) : theta (theta b) = b := by
  by_cases h0 : b = 0
  · subst h0; rfl
  by_cases h1 : b = 1
  · subst h1; rfl
  by_cases h2 : b = 2
  · subst h2; rfl
  by_cases h3 : b = 3
  · subst h3; rfl
  have : theta b = b := by unfold theta; rw [if_neg h0, if_neg h1, if_neg h2, if_neg h3]
  rw [this, this]
theorem trev_app (u v : List Int) : trev (u ++ v) = trev v ++ trev u := by unfold trev; rw [List.reverse_append, List.map_append]
theorem trev_one (x : Int) : trev [x] = [theta x] := rfl
theorem trev_nu (b : Int) : trev (nu b) = nu b := by
  by_cases h : theta b = b
  · rw [nu_fix h, trev_one, h]
  · rw [nu_two h]
    show [theta (theta b), theta b] = _
    rw [theta_theta]
theorem trev_nuL : ∀ z : List Int, trev (nuL z) = nuL z.reverse
  | [] => rfl
  | b :: z => by rw [nuL_cons, trev_app, trev_nuL z, trev_nu, List.reverse_cons, nuL_snoc]
theorem nu_head (b : Int) : ∃ t, nu b = b :: t := by unfold nu; split <;> exact ⟨_, rfl⟩
theorem nuL_inj : ∀ {u v : List Int}, nuL u = nuL v → u = v
  | [], [], _ => rfl
  | [], b :: v, h => by
    obtain ⟨t, ht⟩ := nu_head b
    rw [nuL_cons, ht] at h
    cases h
  | b :: u, [], h => by
    obtain ⟨t, ht⟩ := nu_head b
    rw [nuL_cons, ht] at h
    cases h
  | b :: u, c :: v, h => by
    obtain ⟨t, ht⟩ := nu_head b
    obtain ⟨t', ht'⟩ := nu_head c
    have h' := h
    rw [nuL_cons, nuL_cons] at h
    rw [nuL_cons, nuL_cons, ht, ht'] at h'
    have : b = c := (List.cons.inj h').1
    subst this
    rw [nuL_inj (List.append_cancel_left h)]
theorem Pt_nuL {z : List Int} : Pt (nuL z) ↔ P0 z := by
  unfold Pt P0
  rw [trev_nuL]
  exact ⟨fun h => nuL_inj h, fun h => by rw [h]⟩
theorem head_of_pt {w r' q : List Int} {x c : Int} (h : w ++ [x] = r' ++ c :: q) (hp : Pt (c :: q)) : c = theta x := by
  have := congrArg trev h
  unfold Pt at hp
  rw [trev_app, trev_app, hp] at this
  exact (List.cons.inj this).1.symm
theorem split_fix {x : Int} (hx : theta x = x) : ∀ {z r q : List Int}, nuL z = r ++ x :: q → ∃ z1 z2, z = z1 ++ z2 ∧ r = nuL z1 ∧ x :: q = nuL z2
  | [], r, q, h => by
    have h' : [] = r ++ x :: q := h
    simp at h'
  | b :: z, [], q, h => ⟨[], b :: z, rfl, rfl, h.symm⟩
  | b :: z, c :: r, q, h => by
    rw [nuL_cons] at h
    by_cases hb : theta b = b
    · rw [nu_fix hb, List.cons_append, List.cons_append] at h
      obtain ⟨h1, h2⟩ := List.cons.inj h
      obtain ⟨z1, z2, e1, e2, e3⟩ := split_fix hx (z := z) (r := r) (q := q) h2
      exact ⟨b :: z1, z2, by rw [e1]; rfl, by rw [nuL_cons, nu_fix hb, ← h1, e2]; rfl, e3⟩
    · rw [nu_two hb, List.cons_append, List.cons_append] at h
      obtain ⟨h1, h2⟩ := List.cons.inj h
      cases r with
      | nil =>
        exfalso
        have h3 : theta b = x := (List.cons.inj h2).1
        have h4 : b = x := by rw [← theta_theta b, h3, hx]
        exact hb (h3.trans h4.symm)
      | cons c' r =>
        obtain ⟨h3, h4⟩ := List.cons.inj h2
        obtain ⟨z1, z2, e1, e2, e3⟩ := split_fix hx (z := z) (r := r) (q := q) h4
        exact ⟨b :: z1, z2, by rw [e1]; rfl, by rw [nuL_cons, nu_two hb, ← h1, ← h3, e2]; rfl, e3⟩
theorem split_two {y : Int} : ∀ {z r q : List Int}, nuL z = r ++ y :: q →
    (∃ z1 z2, z = z1 ++ z2 ∧ r = nuL z1 ∧ y :: q = nuL z2) ∨ (∃ z1 z2, z = z1 ++ z2 ∧ r = nuL z1 ++ [theta y] ∧ theta y :: y :: q = nuL z2)
  | [], r, q, h => by
    have h' : [] = r ++ y :: q := h
    simp at h'
  | b :: z, [], q, h => .inl ⟨[], b :: z, rfl, rfl, h.symm⟩
  | b :: z, c :: r, q, h => by
    rw [nuL_cons] at h
    by_cases hb : theta b = b
    · rw [nu_fix hb, List.cons_append, List.cons_append] at h
      obtain ⟨h1, h2⟩ := List.cons.inj h
      rcases split_two (z := z) (r := r) (q := q) h2 with ⟨z1, z2, e1, e2, e3⟩ | ⟨z1, z2, e1, e2, e3⟩
      · exact .inl ⟨b :: z1, z2, by rw [e1]; rfl, by rw [nuL_cons, nu_fix hb, ← h1, e2]; rfl, e3⟩
      · exact .inr ⟨b :: z1, z2, by rw [e1]; rfl, by rw [nuL_cons, nu_fix hb, ← h1, e2]; rfl, e3⟩
    · have hz := h
      rw [nu_two hb, List.cons_append, List.cons_append] at h
      obtain ⟨h1, h2⟩ := List.cons.inj h
      cases r with
      | nil =>
        have h3 : theta b = y := (List.cons.inj h2).1
        have h4 : b = theta y := by rw [← h3, theta_theta]
        refine .inr ⟨[], b :: z, rfl, ?_, ?_⟩
        · rw [← h1, h4]; rfl
        · rw [nuL_cons, hz, ← h1, h4]; rfl
      | cons c' r =>
        obtain ⟨h3, h4⟩ := List.cons.inj h2
        rcases split_two (z := z) (r := r) (q := q) h4 with ⟨z1, z2, e1, e2, e3⟩ | ⟨z1, z2, e1, e2, e3⟩
        · exact .inl ⟨b :: z1, z2, by rw [e1]; rfl, by rw [nuL_cons, nu_two hb, ← h1, ← h3, e2]; rfl, e3⟩
        · exact .inr ⟨b :: z1, z2, by rw [e1]; rfl, by rw [nuL_cons, nu_two hb, ← h1, ← h3, e2]; rfl, e3⟩
theorem no_shift {x : Int} (hx : theta x ≠ x) : ∀ (p q : List Int), theta x :: nuL q ≠ nuL p ++ [x]
  | [], q, h => hx (List.cons.inj h).1
  | b :: p, q, h => by
    obtain ⟨t, ht⟩ := nu_head b
    have h' := h
    rw [nuL_cons, ht] at h'
    obtain rfl : theta x = b := (List.cons.inj h').1
    have hb : theta (theta x) ≠ theta x := by rw [theta_theta]; exact Ne.symm hx
    rw [nuL_cons, nu_two hb, theta_theta] at h
    have h2 : nuL q = x :: (nuL p ++ [x]) := (List.cons.inj h).2
    cases q with
    | nil => cases h2
    | cons c q =>
      obtain ⟨t', ht'⟩ := nu_head c
      have h3 := h2
      rw [nuL_cons, ht'] at h3
      obtain rfl : c = x := (List.cons.inj h3).1
      rw [nuL_cons, nu_two hx] at h2
      exact no_shift hx p q (List.cons.inj h2).2
theorem Pt_wrap {x : Int} {p : List Int} : Pt (x :: (p ++ [theta x])) ↔ Pt p := by
  unfold Pt
  have e : trev (x :: (p ++ [theta x])) = x :: (trev p ++ [theta x]) := by
    unfold trev
    rw [List.reverse_cons, List.reverse_append]
    simp [theta_theta]
  rw [e]
  constructor
  · intro h
    exact List.append_cancel_right (List.cons.inj h).2
  · intro h
    rw [h]
theorem cl_nu {w r p : List Int} {x : Int} (h : Cl P0 (w ++ [x]) r p) : ∃ r1 p1, Cl Pt (nuL w ++ [x]) r1 p1 ∧ nuL w ++ [x] ++ trev r1 = nuL (w ++ [x] ++ r.reverse) := by
  obtain ⟨hz, hp, hm⟩ := h
  by_cases hx : theta x = x
  · have e : nuL w ++ [x] = nuL (w ++ [x]) := by rw [nuL_snoc, nu_fix hx]
    refine ⟨nuL r, nuL p, ⟨?_, Pt_nuL.mpr hp, ?_⟩, ?_⟩
    · rw [e, hz, nuL_app]
    · intro r' p' e' hp'
      cases p' with
      | nil =>
        rw [List.append_nil] at e'
        rw [← e', e, hz, nuL_app, List.length_append]; omega
      | cons c q =>
        have hc : c = x := (head_of_pt e' hp').trans hx
        subst hc
        rw [e] at e'
        obtain ⟨z1, z2, e1, e2, e3⟩ := split_fix hx e'
        rw [e3] at hp'
        obtain ⟨f, hf⟩ := pre_of (hz.symm.trans e1) (hm z1 z2 e1 (Pt_nuL.mp hp'))
        rw [e2, hf, nuL_app, List.length_append]; omega
    · rw [e, trev_nuL, ← nuL_app]
  · have e : nuL w ++ [x] ++ [theta x] = nuL (w ++ [x]) := by rw [nuL_snoc, nu_two hx]; simp
    have hru : r.length ≤ w.length := hm w [x] rfl (P0_one x)
    obtain ⟨f, hf⟩ := pre_of hz.symm hru
    have hpf : p = f ++ [x] := by
      rw [hf, List.append_assoc] at hz
      exact (List.append_cancel_left hz).symm
    obtain ⟨t, ht⟩ : ∃ t, nuL f ++ [x] = x :: t := by
      cases f with
      | nil => exact ⟨[], rfl⟩
      | cons c f =>
        rw [hpf, List.cons_append] at hz hp
        obtain rfl : c = x := head_of_pal hz hp
        obtain ⟨t', ht'⟩ := nu_head c
        exact ⟨t' ++ (nuL f ++ [c]), by rw [nuL_cons, ht']; simp⟩
    have htp : nuL p = x :: (t ++ [theta x]) := by
      rw [hpf, nuL_snoc, nu_two hx, show [x, theta x] = [x] ++ [theta x] from rfl, ← List.append_assoc, ht]; rfl
    refine ⟨nuL r ++ [x], t, ⟨?_, ?_, ?_⟩, ?_⟩
    · rw [hf, nuL_app, List.append_assoc, ht]; simp
    · have h1 : Pt (nuL p) := Pt_nuL.mpr hp
      rw [htp] at h1
      exact Pt_wrap.mp h1
    · intro r' p' e' hp'
      cases p' with
      | nil =>
        rw [List.append_nil] at e'
        rw [← e', hf, nuL_app]
        simp only [List.length_append, List.length_cons, List.length_nil]; omega
      | cons c q =>
        obtain rfl : c = theta x := head_of_pt e' hp'
        have e2 : nuL (w ++ [x]) = r' ++ theta x :: (q ++ [theta x]) := by rw [← e, e']; simp
        rcases split_two e2 with ⟨z1, z2, e3, e4, e5⟩ | ⟨z1, z2, e3, e4, e5⟩
        · exfalso
          rcases List.eq_nil_or_concat z2 with h0 | ⟨z3, b, h0⟩
          · rw [h0] at e5; cases e5
          · have h0' : z2 = z3 ++ [b] := by simpa using h0
            rw [h0', ← List.append_assoc] at e3
            obtain ⟨e6, e7⟩ := List.append_inj' e3 rfl
            obtain rfl : x = b := (List.cons.inj e7).1
            have e8 : theta x :: q = nuL z3 ++ [x] := by
              rw [h0', nuL_snoc, nu_two hx, show [x, theta x] = [x] ++ [theta x] from rfl, ← List.append_assoc, ← List.cons_append] at e5
              exact List.append_cancel_right e5
            unfold Pt at hp'
            rw [e8, trev_app, trev_one, trev_nuL] at hp'
            exact no_shift hx z3 z3.reverse hp'
        · rw [theta_theta] at e4 e5
          have h2 : Pt (nuL z2) := by
            rw [← e5, ← List.cons_append]; exact Pt_wrap.mpr hp'
          obtain ⟨f', hf'⟩ := pre_of (hz.symm.trans e3) (hm z1 z2 e3 (Pt_nuL.mp h2))
          rw [e4, hf', nuL_app]
          simp only [List.length_append, List.length_cons, List.length_nil]; omega
    · rw [trev_app, trev_one, trev_nuL, nuL_app, ← e]; simp
theorem cl_told (v : List Int) (x : Int) : ∃ r p, Cl Pt (nuL (psi v) ++ [x]) r p ∧ nuL (psi (v ++ [x])) = nuL (psi v) ++ [x] ++ trev r := by
  obtain ⟨r, p, h, e⟩ := cl_psi v x
  obtain ⟨r1, p1, h1, e1⟩ := cl_nu h
  exact ⟨r1, p1, h1, by rw [e, ← e1]⟩
theorem Pt_told (v : List Int) : Pt (nuL (psi v)) := Pt_nuL.mpr (P0_psi v)

/-! lengths -/
def wt (w : Int → Nat) (u : List Int) : Nat := (u.map w).sum
def wn (a : Int) (w : Int → Nat) (b : Int) : Nat := if b = a then w b else w b + w a
theorem wt_app (w : Int → Nat) (u v : List Int) : wt w (u ++ v) = wt w u + wt w v := by simp [wt]
theorem wt_cons (w : Int → Nat) (b : Int) (v : List Int) : wt w (b :: v) = w b + wt w v := by simp [wt]
theorem wt_one (w : Int → Nat) (b : Int) : wt w [b] = w b := by simp [wt]
theorem wt_mu (w : Int → Nat) (a b : Int) : wt w (mu a b) = wn a w b := by
  unfold wn
  by_cases h : b = a
  · subst h; rw [mu_eq, if_pos rfl, wt_one]
  · rw [mu_ne h, if_neg h, wt_cons, wt_one, Nat.add_comm]
theorem wt_muL (w : Int → Nat) (a : Int) : ∀ u : List Int, wt w (muL a u) = wt (wn a w) u
  | [] => rfl
  | b :: u => by rw [muL_cons, wt_app, wt_mu, wt_muL w a u, wt_cons]
theorem wt_psi (w : Int → Nat) (a : Int) (v : List Int) : wt w (psi (a :: v)) = wt (wn a w) (psi v) + w a := by
  rw [psi_cons, La, wt_app, wt_muL, wt_one]
theorem wt_new {x : Int} : ∀ {u : List Int}, x ∉ u → ∀ w : Int → Nat, wt w (psi (u ++ [x])) = 2 * wt w (psi u) + w x
  | [], _, w => by
    show wt w [x] = 2 * 0 + w x
    rw [wt_one]; omega
  | a :: u, h, w => by
    have h1 : x ≠ a := fun e => h (e ▸ .head _)
    rw [List.cons_append, wt_psi, wt_new (fun e => h (.tail _ e)), wt_psi]
    simp only [wn, if_neg h1]
    omega
theorem wt_old {x : Int} : ∀ {u : List Int}, x ∈ u → ∀ w : Int → Nat, wt w (psi (u ++ [x])) ≤ 2 * wt w (psi u)
  | a :: u, h, w => by
    rw [List.cons_append, wt_psi, wt_psi]
    by_cases hu : x ∈ u
    · have := wt_old hu (wn a w)
      omega
    · obtain rfl : x = a := by
        rcases List.mem_cons.mp h with h | h
        · exact h
        · exact absurd h hu
      rw [wt_new hu]
      simp only [wn, if_true]
      omega
theorem wt_told {x b : Int} {u : List Int} {w : Int → Nat} (hw : 0 < w b) : 2 * wt w (psi (b :: u)) ≤ wt w (psi (b :: u ++ [x])) ↔ x ∉ u := by
  constructor
  · intro h hx
    rw [List.cons_append, wt_psi, wt_psi] at h
    have := wt_old hx (wn b w)
    omega
  · intro hx
    by_cases e : x = b
    · subst e
      rw [List.cons_append, wt_psi, wt_psi, wt_new hx]
      simp only [wn, if_true]
      omega
    · rw [wt_new (u := b :: u)]
      · omega
      · intro h
        rcases List.mem_cons.mp h with h | h
        · exact e h
        · exact hx h
theorem nuL_wt : ∀ u : List Int, (nuL u).length = wt (fun b => (nu b).length) u
  | [] => rfl
  | b :: u => by rw [nuL_cons, List.length_append, wt_cons, nuL_wt u]

/-! the mates' words -/
theorem theta_inj {a b : Int} (h : theta a = theta b) : a = b := by rw [← theta_theta a, h, theta_theta]
theorem mu_theta (a b : Int) : (mu a b).map theta = mu (theta a) (theta b) := by
  by_cases h : b = a
  · subst h; rw [mu_eq, mu_eq]; rfl
  · rw [mu_ne h, mu_ne (fun e => h (theta_inj e))]; rfl
theorem muL_theta (a : Int) : ∀ u : List Int, (muL a u).map theta = muL (theta a) (u.map theta)
  | [] => rfl
  | b :: u => by rw [muL_cons, List.map_append, mu_theta, muL_theta a u, List.map_cons, muL_cons]
theorem psi_theta : ∀ v : List Int, (psi v).map theta = psi (v.map theta)
  | [] => rfl
  | a :: v => by
    rw [psi_cons, La, List.map_append, muL_theta, psi_theta v]; rfl
theorem nu_theta (b : Int) : (nu b).map theta = nu (theta b) := by
  by_cases h : theta b = b
  · rw [nu_fix h, nu_fix (by rw [h, h])]; rfl
  · rw [nu_two h, nu_two (by rw [theta_theta]; exact Ne.symm h)]; rfl
theorem nuL_theta : ∀ u : List Int, (nuL u).map theta = nuL (u.map theta)
  | [] => rfl
  | b :: u => by rw [nuL_cons, List.map_append, nu_theta, nuL_theta u, List.map_cons, nuL_cons]
end Mine
end
section
open PySem PySem.W PySem.Calls PyProof.Rows
namespace Mine
theorem up_set4 {m : PySem.Str → Option Value} {x a c e g : PySem.Str} {v v' b d f i : Option Value} (h : a ≠ x) (h2 : c ≠ x) (h3 : e ≠ x) (h4 : g ≠ x) : up (up (up (up (up (up m x v) a b) c d) e f) g i) x v' = up (up (up (up (up m x v') a b) c d) e f) g i := by
  rw [up_swap (x := g) (z := x) h4, up_set3 h h2 h3]
theorem told_same {v d ns : List Int} {a : Int} {i : Nat} (hv : v = d ++ a :: ns) (hi : i = d.length) :
    ((!d.tail.contains a) != !(List.take (min (i : Int).toNat v.length - 1) (List.drop 1 v)).any fun x => x == a) = false := by
  have e : List.take (min (i : Int).toNat v.length - 1) (List.drop 1 v) = d.tail := by
    rw [hv, hi, Int.toNat_natCast, List.length_append, List.length_cons, show min d.length (d.length + (ns.length + 1)) - 1 = d.length - 1 by omega]
    cases d with
    | nil => rfl
    | cons b d => simp
  rw [e, bne_eq_false_iff_eq]
  congr 1
  induction d.tail with
  | nil => rfl
  | cons b l ih => rw [List.contains_cons, List.any_cons, ih, Bool.beq_comm]
theorem cellsOf_len (b : Bool) : (cellsOf b).length = 6 := by cases b <;> rfl
theorem cellsOf_le3 (b : Bool) : ∀ c ∈ cellsOf b, c.length ≤ 3 := by cases b <;> decide
theorem cell_kw {kw : Nat} (hk : kw = 2 ∨ kw = 3) {b : Int} (h0 : 0 ≤ b) (h6 : b < 6) : ((cellsOf (decide ((kw : Int) = 2))).getD b.toNat []).length = kw := by
  have hb : b = 0 ∨ b = 1 ∨ b = 2 ∨ b = 3 ∨ b = 4 ∨ b = 5 := by omega
  rcases hk with rfl | rfl <;> rcases hb with rfl | rfl | rfl | rfl | rfl | rfl <;> decide
theorem wr_kw {kw : Nat} (hk : kw = 2 ∨ kw = 3) : ∀ {w : List Int}, (∀ x ∈ w, 0 ≤ x ∧ x < 6) → (wr (cellsOf (decide ((kw : Int) = 2))) w).length = w.length * kw
  | [], _ => by simp [wr]
  | b :: w, h => by
    have e : wr (cellsOf (decide ((kw : Int) = 2))) (b :: w) = (cellsOf (decide ((kw : Int) = 2))).getD b.toNat [] ++ wr (cellsOf (decide ((kw : Int) = 2))) w := by simp [wr]
    obtain ⟨h0, h6⟩ := h b (.head _)
    rw [e, List.length_append, cell_kw hk h0 h6, wr_kw hk fun x hx => h x (.tail _ hx), List.length_cons, Nat.add_mul, Nat.one_mul, Nat.add_comm]
theorem cell_low (two : Bool) (n : Nat) : ∀ x ∈ (cellsOf two).getD n [], 97 ≤ x ∧ x < 103 := by
  intro x hx
  have h : ∀ c ∈ cellsOf two, ∀ x ∈ c, 97 ≤ x ∧ x < 103 := by cases two <;> decide
  rw [List.getD_eq_getElem?_getD] at hx
  rcases e : (cellsOf two)[n]? with _ | c
  · rw [e] at hx; simp at hx
  · rw [e] at hx
    exact h c (List.mem_of_getElem? e) x hx
theorem wr_low (two : Bool) (w : List Int) : ∀ x ∈ wr (cellsOf two) w, 97 ≤ x ∧ x < 103 := by
  intro x hx
  unfold wr at hx
  obtain ⟨b, _, hb⟩ := List.mem_flatMap.mp hx
  exact cell_low two _ x hb
theorem theta_range {b : Int} (h : 0 ≤ b ∧ b < 6) : 0 ≤ theta b ∧ theta b < 6 := by
  have hb : b = 0 ∨ b = 1 ∨ b = 2 ∨ b = 3 ∨ b = 4 ∨ b = 5 := by omega
  rcases hb with rfl | rfl | rfl | rfl | rfl | rfl <;> decide
theorem nuL_range {w : List Int} (h : ∀ x ∈ w, 0 ≤ x ∧ x < 6) : ∀ x ∈ nuL w, 0 ≤ x ∧ x < 6 := by
  intro x hx
  unfold nuL at hx
  obtain ⟨b, hb, hx⟩ := List.mem_flatMap.mp hx
  unfold nu at hx
  split at hx
  · simp only [List.mem_singleton] at hx; subst hx; exact h _ hb
  · simp only [List.mem_cons, List.not_mem_nil, or_false] at hx
    rcases hx with rfl | rfl
    · exact h _ hb
    · exact theta_range (h _ hb)
theorem psi_range {v : List Int} (h : ∀ x ∈ v, 0 ≤ x ∧ x < 6) : ∀ x ∈ psi v, 0 ≤ x ∧ x < 6 := fun x hx => h x (psi_mem hx)
/-- bounds of the told text -/
theorem told_len {kw : Nat} {d : List Int} (h : d.length ≤ 6) : (wr (cellsOf (decide ((kw : Int) = 2))) (nuL (psi d))).length ≤ 400 := by
  have h1 := wr_len (cellsOf_le3 (decide ((kw : Int) = 2))) (nuL (psi d))
  have h2 := nuL_len (psi d)
  have h3 := psi_len6 h
  omega
theorem app_len {kw : Nat} (hk : kw = 2 ∨ kw = 3) {d : List Int} {a : Int} (hd : ∀ x ∈ d, 0 ≤ x ∧ x < 6) (ha : 0 ≤ a ∧ a < 6) :
    (wr (cellsOf (decide ((kw : Int) = 2))) (nuL (psi d)) ++ (cellsOf (decide ((kw : Int) = 2))).getD a.toNat []).length = ((nuL (psi d)).length + 1) * kw := by
  rw [List.length_append, wr_kw hk (nuL_range (psi_range hd)), cell_kw hk ha.1 ha.2, Nat.add_mul, Nat.one_mul]
theorem cell_rev {kw : Nat} {b : Int} (h0 : 0 ≤ b) (h6 : b < 6) : ((cellsOf (decide ((kw : Int) = 2))).getD b.toNat []).reverse = (cellsOf (decide ((kw : Int) = 2))).getD (theta b).toNat [] := by
  have hb : b = 0 ∨ b = 1 ∨ b = 2 ∨ b = 3 ∨ b = 4 ∨ b = 5 := by omega
  cases decide ((kw : Int) = 2) <;> rcases hb with rfl | rfl | rfl | rfl | rfl | rfl <;> decide
theorem cell_inj {kw : Nat} {b c : Int} (h0 : 0 ≤ b ∧ b < 6) (h6 : 0 ≤ c ∧ c < 6) (h : (cellsOf (decide ((kw : Int) = 2))).getD b.toNat [] = (cellsOf (decide ((kw : Int) = 2))).getD c.toNat []) : b = c := by
  have key : ∀ two : Bool, ∀ i : Fin 6, ∀ j : Fin 6, (cellsOf two).getD i.val [] = (cellsOf two).getD j.val [] → i = j := by decide
  have := key _ ⟨b.toNat, by omega⟩ ⟨c.toNat, by omega⟩ h
  have := congrArg Fin.val this
  simp only at this
  omega
theorem wr_cons (cells : List (List Nat)) (b : Int) (w : List Int) : wr cells (b :: w) = cells.getD b.toNat [] ++ wr cells w := by simp [wr]
theorem wr_rev {kw : Nat} : ∀ {w : List Int}, (∀ x ∈ w, 0 ≤ x ∧ x < 6) → (wr (cellsOf (decide ((kw : Int) = 2))) w).reverse = wr (cellsOf (decide ((kw : Int) = 2))) (trev w)
  | [], _ => rfl
  | b :: w, h => by
    obtain ⟨h0, h6⟩ := h b (.head _)
    rw [wr_cons, List.reverse_append, wr_rev fun x hx => h x (.tail _ hx), cell_rev h0 h6, show b :: w = [b] ++ w from rfl, trev_app, trev_one, wr_app, wr_one]
theorem wr_inj {kw : Nat} (hk : kw = 2 ∨ kw = 3) : ∀ {u v : List Int}, (∀ x ∈ u, 0 ≤ x ∧ x < 6) → (∀ x ∈ v, 0 ≤ x ∧ x < 6) → wr (cellsOf (decide ((kw : Int) = 2))) u = wr (cellsOf (decide ((kw : Int) = 2))) v → u = v
  | [], [], _, _, _ => rfl
  | [], c :: v, _, hv, h => by
    have := congrArg List.length h
    rw [wr_kw hk hv] at this
    simp only [wr, List.flatMap_nil, List.length_nil, List.length_cons, Nat.add_mul] at this
    omega
  | b :: u, [], hu, _, h => by
    have := congrArg List.length h
    rw [wr_kw hk hu] at this
    simp only [wr, List.flatMap_nil, List.length_nil, List.length_cons, Nat.add_mul] at this
    omega
  | b :: u, c :: v, hu, hv, h => by
    have hb := hu b (.head _)
    have hc := hv c (.head _)
    rw [wr_cons, wr_cons] at h
    obtain ⟨h1, h2⟩ := List.append_inj h (by rw [cell_kw hk hb.1 hb.2, cell_kw hk hc.1 hc.2])
    rw [cell_inj hb hc h1, wr_inj hk (fun x hx => hu x (.tail _ hx)) (fun x hx => hv x (.tail _ hx)) h2]
theorem trev_range {w : List Int} (h : ∀ x ∈ w, 0 ≤ x ∧ x < 6) : ∀ x ∈ trev w, 0 ≤ x ∧ x < 6 := by
  intro x hx
  unfold trev at hx
  obtain ⟨y, hy, rfl⟩ := List.mem_map.mp hx
  exact theta_range (h y (List.mem_reverse.mp hy))
theorem wr_take {kw : Nat} (hk : kw = 2 ∨ kw = 3) {w : List Int} (h : ∀ x ∈ w, 0 ≤ x ∧ x < 6) {c : Nat} (hc : c ≤ w.length) : (wr (cellsOf (decide ((kw : Int) = 2))) w).take (c * kw) = wr (cellsOf (decide ((kw : Int) = 2))) (w.take c) := by
  have e : wr (cellsOf (decide ((kw : Int) = 2))) w = wr (cellsOf (decide ((kw : Int) = 2))) (w.take c) ++ wr (cellsOf (decide ((kw : Int) = 2))) (w.drop c) := by rw [← wr_app, List.take_append_drop]
  have hl : (wr (cellsOf (decide ((kw : Int) = 2))) (w.take c)).length = c * kw := by
    rw [wr_kw hk fun x hx => h x (List.mem_of_mem_take hx), List.length_take, Nat.min_eq_left hc]
  rw [e, ← hl, List.take_left]
theorem wr_drop {kw : Nat} (hk : kw = 2 ∨ kw = 3) {w : List Int} (h : ∀ x ∈ w, 0 ≤ x ∧ x < 6) {c : Nat} (hc : c ≤ w.length) : (wr (cellsOf (decide ((kw : Int) = 2))) w).drop (c * kw) = wr (cellsOf (decide ((kw : Int) = 2))) (w.drop c) := by
  have e : wr (cellsOf (decide ((kw : Int) = 2))) w = wr (cellsOf (decide ((kw : Int) = 2))) (w.take c) ++ wr (cellsOf (decide ((kw : Int) = 2))) (w.drop c) := by rw [← wr_app, List.take_append_drop]
  have hl : (wr (cellsOf (decide ((kw : Int) = 2))) (w.take c)).length = c * kw := by
    rw [wr_kw hk fun x hx => h x (List.mem_of_mem_take hx), List.length_take, Nat.min_eq_left hc]
  rw [e, ← hl, List.drop_left]
theorem take_rev {l : List Nat} {n : Nat} (h : n ≤ l.length) : l.reverse.take (l.length - n) = (l.drop n).reverse := by
  rw [List.take_reverse, show l.length - (l.length - n) = n by omega]
theorem drop_rev {l : List Nat} {n : Nat} (h : n ≤ l.length) : l.reverse.drop (l.length - n) = (l.take n).reverse := by
  rw [List.drop_reverse, show l.length - (l.length - n) = n by omega]
theorem grown_eq {kw : Nat} (hk : kw = 2 ∨ kw = 3) {d : List Int} {a : Int} (hd : ∀ x ∈ d, 0 ≤ x ∧ x < 6) (ha : 0 ≤ a ∧ a < 6) {l : List Nat} (hl : l = wr (cellsOf (decide ((kw : Int) = 2))) (nuL (psi d)) ++ (cellsOf (decide ((kw : Int) = 2))).getD a.toNat []) {c : Nat} (hc : c ≤ (nuL (psi d)).length + 1)
    (h1 : l.drop (c * kw) = l.reverse.take (l.length - c * kw)) (h2 : ∀ c', c' < c → l.drop (c' * kw) ≠ l.reverse.take (l.length - c' * kw)) :
    l ++ l.reverse.drop (l.length - c * kw) = wr (cellsOf (decide ((kw : Int) = 2))) (nuL (psi (d ++ [a]))) := by
  obtain ⟨r, p, ⟨hz, hp, hm⟩, e⟩ := cl_told d a
  generalize hw : nuL (psi d) ++ [a] = w at hz hm e
  have hwr : ∀ x ∈ w, 0 ≤ x ∧ x < 6 := fun x hx => by
    rw [← hw] at hx
    rcases List.mem_append.mp hx with h | h
    · exact nuL_range (psi_range hd) x h
    · rw [List.mem_singleton.mp h]; exact ha
  have hlw : l = wr (cellsOf (decide ((kw : Int) = 2))) w := by rw [hl, ← hw, wr_app, wr_one]
  have hcw : c ≤ w.length := by rw [← hw, List.length_append]; exact hc
  have hlk : l.length = w.length * kw := by rw [hlw]; exact wr_kw hk hwr
  have key : ∀ c', c' ≤ w.length → (l.drop (c' * kw) = l.reverse.take (l.length - c' * kw) ↔ Pt (w.drop c')) := by
    intro c' hc'
    have hdr : ∀ x ∈ w.drop c', 0 ≤ x ∧ x < 6 := fun x hx => hwr x (List.mem_of_mem_drop hx)
    rw [take_rev (by rw [hlk]; exact Nat.mul_le_mul_right _ hc'), hlw, wr_drop hk hwr hc', wr_rev hdr]
    unfold Pt
    exact ⟨fun h => (wr_inj hk hdr (trev_range hdr) h).symm, fun h => by rw [h]⟩
  have hrw : r.length ≤ w.length := by rw [hz, List.length_append]; omega
  have hcr : c = r.length := by
    have g1 := hm (w.take c) (w.drop c) (List.take_append_drop c w).symm ((key c hcw).mp h1)
    rw [List.length_take, Nat.min_eq_left hcw] at g1
    by_cases hlt : r.length < c
    · exact absurd ((key r.length hrw).mpr (by rw [hz, List.drop_left]; exact hp)) (h2 _ hlt)
    · omega
  have htk : w.take c = r := by rw [hcr, hz, List.take_left]
  rw [drop_rev (by rw [hlk]; exact Nat.mul_le_mul_right _ hcw), e, wr_app]
  conv => lhs; rw [hlw]
  rw [wr_take hk hwr hcw, htk, wr_rev fun x hx => hwr x (by rw [hz]; exact List.mem_append_left _ hx)]
theorem told_prefix {kw : Nat} {d : List Int} {a : Int} :
    wr (cellsOf (decide ((kw : Int) = 2))) (nuL (psi d)) <+: wr (cellsOf (decide ((kw : Int) = 2))) (nuL (psi (d ++ [a]))) := by
  obtain ⟨r, p, _, e⟩ := cl_told d a
  exact ⟨wr (cellsOf (decide ((kw : Int) = 2))) ([a] ++ trev r), by rw [e, List.append_assoc, ← wr_app]⟩
theorem told_suffix {kw : Nat} {d : List Int} {a : Int} :
    wr (cellsOf (decide ((kw : Int) = 2))) (nuL (psi d)) <:+ wr (cellsOf (decide ((kw : Int) = 2))) (nuL (psi (d ++ [a]))) := by
  obtain ⟨r, p, _, e⟩ := cl_told d a
  have h1 := Pt_told (d ++ [a])
  have h2 := Pt_told d
  unfold Pt at h1 h2
  rw [e, List.append_assoc, trev_app, h2] at h1
  exact ⟨wr (cellsOf (decide ((kw : Int) = 2))) (trev ([a] ++ trev r)), by rw [← wr_app, h1, e, List.append_assoc]⟩
theorem told_iff {kw : Nat} (hk : kw = 2 ∨ kw = 3) {d : List Int} {a : Int} (hd : ∀ x ∈ d, 0 ≤ x ∧ x < 6) (ha : 0 ≤ a ∧ a < 6) :
    decide (wr (cellsOf (decide ((kw : Int) = 2))) (nuL (psi d)) = [] ∨ 2 * (wr (cellsOf (decide ((kw : Int) = 2))) (nuL (psi d))).length ≤ (wr (cellsOf (decide ((kw : Int) = 2))) (nuL (psi (d ++ [a])))).length) = !d.tail.contains a := by
  have hda : ∀ x ∈ d ++ [a], 0 ≤ x ∧ x < 6 := fun x hx => by
    rcases List.mem_append.mp hx with h | h
    · exact hd x h
    · rw [List.mem_singleton.mp h]; exact ha
  have q1 := wr_kw hk (nuL_range (psi_range hd))
  have q2 := wr_kw hk (nuL_range (psi_range hda))
  cases d with
  | nil => rfl
  | cons b d =>
    have hnb : 0 < (nu b).length := by obtain ⟨t, ht⟩ := nu_head b; rw [ht]; simp
    have hpos : 0 < (nuL (psi (b :: d))).length := by rw [nuL_wt, wt_psi]; omega
    have hne : wr (cellsOf (decide ((kw : Int) = 2))) (nuL (psi (b :: d))) ≠ [] := fun h => by
      rw [h, List.length_nil] at q1
      have := Nat.mul_pos hpos (show 0 < kw by omega)
      omega
    have hle : 2 * (wr (cellsOf (decide ((kw : Int) = 2))) (nuL (psi (b :: d)))).length ≤ (wr (cellsOf (decide ((kw : Int) = 2))) (nuL (psi (b :: d ++ [a])))).length ↔ a ∉ d := by
      rw [q1, q2, nuL_wt, nuL_wt, ← Nat.mul_assoc, Nat.mul_le_mul_right_iff (by omega)]
      exact wt_told hnb
    rw [List.tail_cons]
    by_cases h : a ∈ d
    · rw [decide_eq_false (fun g => g.elim hne fun g => hle.mp g h), List.contains_iff_mem.mpr h]; rfl
    · rw [decide_eq_true (.inr (hle.mpr h)), Bool.eq_false_iff.mpr (fun g => h (List.contains_iff_mem.mp g))]; rfl
end Mine
end
section
open PySem PySem.W PySem.Calls PyProof.Rows
namespace Mine
theorem told_pos {kw : Nat} (hk : kw = 2 ∨ kw = 3) {v : List Int} (hv : ∀ x ∈ v, 0 ≤ x ∧ x < 6) (h0 : 0 < v.length) : 0 < (wr (cellsOf (decide ((kw : Int) = 2))) (nuL (psi v))).length := by
  rw [wr_kw hk (nuL_range (psi_range hv))]
  refine Nat.mul_pos ?_ (by omega)
  cases v with
  | nil => simp at h0
  | cons a v =>
    simp only [psi, nuL, List.flatMap_append, List.length_append, List.flatMap_cons, List.flatMap_nil, List.append_nil]
    have : 0 < (nu a).length := by unfold nu; split <;> simp
    omega
theorem mates_eq {v : List Int} (hv : ∀ x ∈ v, 0 ≤ x ∧ x < 6) : List.map (fun k' : Int => if k' < 4 then Builtin.bitXor k' 1 else k') v = v.map theta := by
  apply List.map_congr_left
  intro x hx
  have h := hv x hx
  split
  · rename_i h4
    exact (theta_xor h.1 h4).1
  · rename_i h4
    exact (theta_fix h4).symm
theorem wr_at {kw : Nat} (hk : kw = 2 ∨ kw = 3) : ∀ {w : List Int}, (∀ x ∈ w, 0 ≤ x ∧ x < 6) → ∀ {p j : Nat}, j < kw → (wr (cellsOf (decide ((kw : Int) = 2))) w)[p * kw + j]? = (w[p]?).bind fun b => ((cellsOf (decide ((kw : Int) = 2))).getD b.toNat [])[j]?
  | [], _, p, j, _ => by simp [wr]
  | b :: w, h, 0, j, hj => by
    have hb := h b (.head _)
    rw [wr_cons, Nat.zero_mul, Nat.zero_add, List.getElem?_append_left (by rw [cell_kw hk hb.1 hb.2]; exact hj)]
    rfl
  | b :: w, h, p + 1, j, hj => by
    have hb := h b (.head _)
    have hl := cell_kw hk hb.1 hb.2
    rw [wr_cons, Nat.add_mul, Nat.one_mul, List.getElem?_append_right (by rw [hl]; omega), hl, show p * kw + kw + j - kw = p * kw + j by omega, wr_at hk (fun x hx => h x (.tail _ hx)) hj, List.getElem?_cons_succ]
theorem turned_eq {kw : Nat} (hk : kw = 2 ∨ kw = 3) {v : List Int} (hv : ∀ x ∈ v, 0 ≤ x ∧ x < 6) {c : Array UInt8}
    (hs : c.size = ((mkS (wr (cellsOf (decide ((kw : Int) = 2))) (nuL (psi v)))).cps.map Nat.toUInt8).size)
    (h : ∀ p j, p < (nuL (psi v)).length → j < kw → c[p * kw + (kw - 1 - j)]? = ((mkS (wr (cellsOf (decide ((kw : Int) = 2))) (nuL (psi v)))).cps.map Nat.toUInt8)[p * kw + j]?) :
    c = ((wr (cellsOf (decide ((kw : Int) = 2))) (nuL (psi (v.map theta)))).map Nat.toUInt8).toArray := by
  have hvt : ∀ x ∈ v.map theta, 0 ≤ x ∧ x < 6 := fun x hx => by
    obtain ⟨y, hy, rfl⟩ := List.mem_map.mp hx
    exact theta_range (hv y hy)
  have r1 := nuL_range (psi_range hv)
  have r2 := nuL_range (psi_range hvt)
  have e2 : nuL (psi (v.map theta)) = (nuL (psi v)).map theta := by rw [nuL_theta, psi_theta]
  rw [e2] at r2 ⊢
  generalize nuL (psi v) = w at r1 r2 hs h ⊢
  have l1 := wr_kw hk r1
  have l2 := wr_kw hk r2
  rw [List.length_map] at l2
  have hs' : c.size = w.length * kw := by rw [hs, Array.size_map]; exact l1
  have hk0 : 0 < kw := by omega
  apply Array.ext'
  apply List.ext_getElem?
  intro i
  show c.toList[i]? = (List.map Nat.toUInt8 _)[i]?
  rw [Array.getElem?_toList, List.getElem?_map]
  by_cases hi : i < w.length * kw
  · have hp : i / kw < w.length := Nat.div_lt_of_lt_mul (by rw [Nat.mul_comm]; exact hi)
    have hm : i % kw < kw := Nat.mod_lt _ hk0
    have hi' : i = i / kw * kw + i % kw := by rw [Nat.mul_comm]; exact (Nat.div_add_mod i kw).symm
    generalize i / kw = p at hp hi'
    generalize i % kw = j at hm hi'
    subst hi'
    have g := h p (kw - 1 - j) hp (by omega)
    rw [show kw - 1 - (kw - 1 - j) = j by omega] at g
    rw [g, Array.getElem?_map, wr_at hk r2 hm, List.getElem?_map]
    have g2 : (mkS (wr (cellsOf (decide ((kw : Int) = 2))) w)).cps[p * kw + (kw - 1 - j)]? = (wr (cellsOf (decide ((kw : Int) = 2))) w)[p * kw + (kw - 1 - j)]? := by
      unfold mkS; rw [List.getElem?_toArray]
    rw [g2, wr_at hk r1 (by omega), List.getElem?_eq_getElem hp]
    have hb := r1 w[p] (List.getElem_mem hp)
    have hl := cell_kw hk hb.1 hb.2
    simp only [Option.bind_some, Option.map_some]
    rw [← cell_rev hb.1 hb.2, List.getElem?_reverse (by rw [hl]; exact hm), hl]
  · rw [Array.getElem?_eq_none (by omega), List.getElem?_eq_none (by omega)]; rfl
end Mine
end
section
open PySem PySem.W PySem.Calls PyProof.Rows
set_option maxRecDepth 100000
namespace Mine
local macro_rules | `(tactic| walk_at "call ref") => `(tactic| ((with_reducible show wpAny _ _ (call (Value.ref 47) [Value.ref _]) _ _ _); refine Hold.mk ?_))
local macro_rules | `(tactic| walk_at "call ref") => `(tactic| ((with_reducible show wpAny _ _ (call (Value.ref 54) [Value.int _ _]) _ _ _); refine Hold.mk ?_))

local macro_rules | `(tactic| walk_at "call type:enumerate") => `(tactic| (k_here; refine Hold.mk ?_))

local macro_rules | `(tactic| walk_at "call ref") => `(tactic| ((with_reducible show wpAny _ _ (call (Value.ref 68) [Value.ref _, Value.ref _]) _ _ _); refine Hold.mk ?_))
local macro_rules | `(tactic| walk_at "call ref") => `(tactic| ((with_reducible show wpAny _ _ (call (Value.ref 42) [Value.ref _]) _ _ _); refine Hold.mk ?_))
local macro_rules | `(tactic| walk_at "call ref") => `(tactic| ((with_reducible show wpAny _ _ (call (Value.ref 28) [Value.str _ _, Value.str _ _]) _ _ _); refine Hold.mk ?_))

local macro_rules | `(tactic| walk_at "getMethod str") => `(tactic| ((with_reducible show wpAny _ _ (getMethod (Value.str _ _) (PySem.Str.ofString "encode") _) _ _ _); refine meth_encode ?_))
local macro_rules | `(tactic| walk_at "call builtin:str.encode") => `(tactic| ((show wpAny _ _ (call (Value.builtin "str.encode") [Value.str _ _, Value.str _ _]) _ _ _); refine call_encode (by assumption) (by assumption) (by assumption) ?_; intro t' k'))
local macro_rules | `(tactic| walk_at "call builtin:bytes.decode") => `(tactic| ((show wpAny _ _ (call (Value.builtin "bytes.decode") [Value.bytes _ _, Value.str _ _]) _ _ _); refine call_decode (by assumption) (by assumption) (by assumption) ?_; intro t' k'; (try rw [back_of (by assumption)])))
local macro_rules | `(tactic| walk_at "call ref") => `(tactic| ((with_reducible show wpAny _ _ (call (Value.ref 68) [Value.ref _, Value.ref _]) _ _ _); refine Hold.mk ?_))
set_option maxHeartbeats 8000000 in
theorem law_holds : PySem.Challenge.rw_wo0017_01.Holds := by
  refine Mine.hd ?_
  k_fill
  intro w s₀ s₁ mg mb G Y fa o pm cd doc dV kV ho hd hcd hD hmg hg args vals as hpre hlay hrd hwl hlo
  have KX := kIn_of Y
  have X := (Ground.X G).1
  have V := (Ground.X G).2
  refine Ground.open G ?_
  intro T B D TE TW
  try (refine guard_noD D (by decide +kernel) ?_; clear D)
  wrow_args hpre hlay hrd hwl hlo
  rename ¬ _ < _ => hlen
  rename IntsAre _ _ => hI
  rename Heap.IsList _ _ _ => hL
  refine wpF_call ?_
  w_top on
  have he := Dflts.none hD rfl
  subst he
  refine call_fullF (binds := [(PySem.Str.ofString "script", .ref _)]) (by decide) ho hd (Top.nolimit T) hcd (BindsTo.of_eq rfl) (locs rfl) fun h₁ F => ?_
  have N0 := (News.nil : News _ _ _ []).at F
  have K0 := below_caller (Top.heap T)
  clear hd
  dsimp only [List.foldl_cons, List.foldl_nil] at F
  refine cut_end (s₁ := s₁) ?_ ?_
  · intro h' tk' hkeep
    dsimp only
    refine ⟨.inl ⟨.bool true, .bool true, [], rfl, ?g1, ReadsW.bool _, ?g2, ?g3⟩, ?g4, rfl, ?g5⟩
    case g1 => exact raisesW_false (by wrow_none_raised)
    case g2 => exact postW_of (by wrow_shape) (by wtm_val) (by str_meet; first | done | w_fin)
    case g3 => exact fun _ => ⟨List.nodup_nil, fun _ h => nomatch h⟩
    case g4 => exact .of_keep hkeep
    case g5 => exact .of_eq hg
  intro Q E hret
  refine execsF_cons (wpF_of_any ?_)
  k_steps
  refine Hold.in ?_
  rename Fr _ _ _ _ => F1
  rename News _ _ _ _ => N1
  (k_dflt (refine' (draws_c w _ _ _ _ _ _ hI (by omega)) _ _ _ _ _ _ _ _ _ _ _ _ _ _ _ _ ?k1 ?k2 ?k3 ?k5 ?kK ?kp ?kd ?ku ?kR; (case k1 => k_asm); (case k2 => k_asm); (case k3 => k_asm); (case k5 => k_asm); (case kK => exact rfl); (case kp => exact Fr.lst (by assumption) hL); (case kd => ktr_room); (case ku => ktr_units); k_whole)); intro r9 h9 tk9 k9 p9
  obtain ⟨D1, ys1, n1, rfl, hn1, hs1, hl1, hi1⟩ := p9
  have F2 := Fr.grownK F1 k9
  have N2 := news_add F1 (News.keeps N1 k9) hn1 hs1
  clear F1 N1 hn1 hs1 k9
  obtain ⟨ds, hds⟩ := ints_of hi1
  have hdl : ds.length = 6 := by rw [← hds.length]; exact hl1
  clear hi1
  k_steps
  rename Fr _ _ _ _ => F3
  refine wpF_clean (s₁ := s₁) F3 rfl fun tk1 => ?_
  refine execsF_cons (wpF_of_any ?_)
  k_steps
  rename Fr _ _ _ _ => F3'
  obtain ⟨tw, F3⟩ : ∃ tw, Fr _ _ _ (up (up (up (fun _ => none) (PySem.Str.ofString "script") (some (.ref _))) (PySem.Str.ofString "draws") (some (.ref D1))) (PySem.Str.ofString "width") (some (.int (2 + ((ds.getD (Int.toNat 0) 0).fdiv 6).fmod 2) tw))) := ⟨_, F3'⟩
  clear F3'
  refine wpF_clean (s₁ := s₁) F3 rfl fun tk2 => ?_
  have hkw := fun h : Int.toNat 0 = 0 => kw_of ((ds.getD (Int.toNat 0) 0).fdiv 6)
  replace hkw := hkw rfl
  generalize 2 + ((ds.getD (Int.toNat 0) 0).fdiv 6).fmod 2 = kk at F3 hkw
  obtain ⟨kw, rfl, hk23⟩ := hkw
  refine execsF_cons (wpF_of_any ?_)
  k_steps
  refine Hold.in ?_
  rename Fr _ _ _ _ => F4
  rename News _ _ _ _ => N4
  (k_dflt (refine' (cells_c w _ _ _ (kw : Int) _) _ _ _ _ _ _ _ _ _ _ _ _ _ _ _ _ ?k1b ?k2b ?k3b ?k5b ?kKb ?kpb ?kdb ?kub ?kRb; (case k1b => k_asm); (case k2b => k_asm); (case k3b => k_asm); (case k5b => k_asm); (case kKb => exact rfl); (case kpb => trivial); (case kdb => ktr_room); (case kub => ktr_units); k_whole)); intro r9 h9 tk9 k9 p9
  obtain ⟨D2, n2, cv, rfl, hn1, hs1, hcs⟩ := p9
  have F5 := Fr.grownK F4 k9
  have N5 := news_add F4 (News.keeps N4 k9) hn1 hs1
  clear F4 N4 hn1 hs1 k9
  k_steps
  rename Fr _ _ _ _ => F6
  rename News _ _ _ _ => N6
  refine wpF_clean (s₁ := s₁) F6 rfl fun tk3 => ?_
  refine execsF_cons (wpF_of_any ?_)
  k_steps
  rename Fr _ _ _ _ => F7
  rename News _ _ _ _ => N7
  rename IntsAre _ _ => hI8
  refine wpF_clean (s₁ := s₁) F7 rfl fun tk4 => ?_
  have hvr : ∀ x ∈ List.map (fun k' : Int => k'.fmod 6) (List.take (4 + ((ds.getD 1 0).fdiv 6).fmod 3).toNat ds), 0 ≤ x ∧ x < 6 := fmod_range _
  have hvl : (List.map (fun k' : Int => k'.fmod 6) (List.take (4 + ((ds.getD 1 0).fdiv 6).fmod 3).toNat ds)).length ≤ 6 := by rw [List.length_map, List.length_take]; omega
  have hv0 : 0 < (List.map (fun k' : Int => k'.fmod 6) (List.take (4 + ((ds.getD 1 0).fdiv 6).fmod 3).toNat ds)).length := by rw [List.length_map, List.length_take]; omega
  generalize List.map (fun k' : Int => k'.fmod 6) (List.take (4 + ((ds.getD 1 0).fdiv 6).fmod 3).toNat ds) = v at hI8 hvr hvl hv0
  rename_i D3 h7 _ _
  try clear Y
  try clear V
  try clear X
  try clear B
  try clear TE
  try clear TW
  try clear hlay
  try clear hrd
  try clear hwl
  try clear hlo
  try clear hpre
  try clear hmg
  try clear hD
  try clear hcd
  try clear ho
  try clear hlen
  try clear hds
  try clear hdl
  try clear hl1
  try clear hI
  try clear hL
  obtain ⟨l0, F8⟩ : ∃ l0 : Addr, Fr _ _ h7 (up (up (up (up (up (fun _ => none) (PySem.Str.ofString "script") (some (.ref l0))) (PySem.Str.ofString "draws") (some (.ref D1))) (PySem.Str.ofString "width") (some (.int (kw : Int) tw))) (PySem.Str.ofString "cells") (some (.ref D2))) (PySem.Str.ofString "letters") (some (.ref D3))) := ⟨_, F7⟩
  clear F7
  have N8 : News s₁.heap s₁.heap.objs.size h7 [(D3, LCg.lst ys), (D2, PySem.W.listOf cv n2)] := fun p hp => by
    simp only [List.mem_cons, List.not_mem_nil, or_false] at hp
    rcases hp with rfl | rfl
    · exact N7 _ (.head _)
    · exact N7 _ (.tail _ (.tail _ (.head _)))
  clear N7
  refine execsF_cons (wpF_of_any ?_)
  k_steps
  rename Fr _ _ _ _ => F9
  rename News _ _ _ _ => N9
  obtain ⟨tt0, F10⟩ : ∃ tt0, Fr _ _ _ (up (up (up (up (up (up (fun _ => none) (PySem.Str.ofString "script") (some (.ref l0))) (PySem.Str.ofString "draws") (some (.ref D1))) (PySem.Str.ofString "width") (some (.int (kw : Int) tw))) (PySem.Str.ofString "cells") (some (.ref D2))) (PySem.Str.ofString "letters") (some (.ref D3))) (PySem.Str.ofString "text") (some (.str (mkS []) tt0))) := ⟨_, F9⟩
  clear F9
  refine wpF_clean (s₁ := s₁) F10 rfl fun tk5 => ?_
  refine execsF_cons ?_
  refine For_EnF (h₀ := s₁.heap) (by rfl) (by rfl) (by decide) (by rfl) ?_
  k_steps
  refine Hold.in ?_
  refine callF_En (vs := ys) (by rfl) (.head _) rfl rfl F10 N9 ?_
  intro h8 e it hlt hie
  have hDe := hlt _ (.head _)
  have hCe := hlt _ (.tail _ (.head _))
  suffices loop : ∀ (us : List Value) (rs : List Int), IntsAre us rs → ∀ (d : List Int) (i : Nat) (tt : Tok) (vP vL vG vT : Option Value), v = d ++ rs → i = d.length →
      EnRest _ _ _ _ _ _ _ _ _ _ e it (D3, LCg.lst ys) us i (up (up (up (up (up (up (up (up (up (up (fun _ => none) (PySem.Str.ofString "script") (some (.ref l0))) (PySem.Str.ofString "draws") (some (.ref D1))) (PySem.Str.ofString "width") (some (.int (kw : Int) tw))) (PySem.Str.ofString "cells") (some (.ref D2))) (PySem.Str.ofString "letters") (some (.ref D3))) (PySem.Str.ofString "text") (some (.str (mkS (wr (cellsOf (decide ((kw : Int) = 2))) (nuL (psi d)))) tt))) (PySem.Str.ofString "place") (vP)) (PySem.Str.ofString "letter") (vL)) (PySem.Str.ofString "grown") (vG)) (PySem.Str.ofString "told") (vT)) [(D3, LCg.lst ys), (D2, PySem.W.listOf cv n2)] by
    have h9 := loop ys v hI8 [] 0 tt0 none none none none rfl rfl
    have m0 : ∀ m : PySem.Str → Option Value, up (up (up (up m (PySem.Str.ofString "place") (m (PySem.Str.ofString "place"))) (PySem.Str.ofString "letter") (m (PySem.Str.ofString "letter"))) (PySem.Str.ofString "grown") (m (PySem.Str.ofString "grown"))) (PySem.Str.ofString "told") (m (PySem.Str.ofString "told")) = m := fun m => by rw [up_self, up_self, up_self, up_self]
    refine Eq.mp (congrArg (fun m => EnRest _ _ _ _ _ _ _ _ _ _ _ _ _ _ _ m _) ?_) h9
    exact m0 _
  clear N9 F10
  intro us rs hus
  induction hus with
  | nil =>
    intro d i tt vP vL vG vT hv hi
    obtain rfl : v = d := by rw [hv, List.append_nil]
    refine EnRest.zero ?_
    intro h10 tk10 F11 N11
    have F12 : Fr s₁.heap s₁.heap.objs.size h10 _ := F11
    have N12 : News s₁.heap s₁.heap.objs.size h10 [(D3, LCg.lst ys), (D2, PySem.W.listOf cv n2)] := N11
    clear F11 N11
    dsimp only
    clear hlt hie hDe hCe
    refine wpF_clean (s₁ := s₁) F12 rfl fun tk5 => ?_
    have hTl := told_len (kw := kw) hvl
    have hTk := wr_kw hk23 (nuL_range (psi_range hvr))
    have hT0 := told_pos hk23 hvr hv0
    have hTd : ∀ x ∈ wr (cellsOf (decide ((kw : Int) = 2))) (nuL (psi v)), x < 128 := fun x hx => by have := wr_low _ _ x hx; omega
    have h128 : ∀ c ∈ (mkS (wr (cellsOf (decide ((kw : Int) = 2))) (nuL (psi v)))).cps.toList, c < 128 := hTd
    have hpos : 0 < (mkS (wr (cellsOf (decide ((kw : Int) = 2))) (nuL (psi v)))).cps.size := hT0
    have hsz : (mkS (wr (cellsOf (decide ((kw : Int) = 2))) (nuL (psi v)))).cps.size ≤ sizeLine := by rw [sizeLine_eq]; show (wr (cellsOf (decide ((kw : Int) = 2))) (nuL (psi v))).length ≤ _; omega
    have hbs : ((mkS (wr (cellsOf (decide ((kw : Int) = 2))) (nuL (psi v)))).cps.map Nat.toUInt8).size = (nuL (psi v)).length * kw := by rw [Array.size_map]; exact hTk
    have hbz : ((mkS (wr (cellsOf (decide ((kw : Int) = 2))) (nuL (psi v)))).cps.map Nat.toUInt8).size ≤ 100000 := by rw [Array.size_map]; show (wr (cellsOf (decide ((kw : Int) = 2))) (nuL (psi v))).length ≤ _; omega
    refine execsF_cons ?_
    refine execF_Assign ?_ (by rfl)
    refine MethodCallF ?_
    refine evalF_Call ?_
    k_steps
    refine callWithF_K (by assumption) (by k_is) ?_ (by rfl) (by rfl)
    k_steps
    (k_dflt (refine' (bs_c _ _ _ _ ((mkS (wr (cellsOf (decide ((kw : Int) = 2))) (nuL (psi v)))).cps.map Nat.toUInt8) _ kw _ (nuL (psi v)).length (by omega) hbs hbz (by omega)) _ _ _ _ _ _ _ _ _ _ _ _ _ _ _ _ ?k1ea ?k2ea ?k3ea ?k5ea ?kKea ?kpea ?kdea ?kuea ?kRea; (case k1ea => k_asm); (case k2ea => k_asm); (case k3ea => k_asm); (case k5ea => k_asm); (case kKea => exact rfl); (case kpea => trivial); (case kdea => ktr_room); (case kuea => ktr_units); k_whole)); intro r9 h9 tk9 k9 p9
    obtain ⟨c9, t9, rfl, hc1, hc2⟩ := p9
    obtain rfl := turned_eq hk23 hvr hc1 hc2
    have F13 := Fr.grownK F12 k9
    have N13 := News.keeps N12 k9
    clear F12 N12 k9 hc1 hc2
    have hmr : ∀ x ∈ v.map theta, 0 ≤ x ∧ x < 6 := fun x hx => by
      obtain ⟨y, hy, rfl⟩ := List.mem_map.mp hx
      exact theta_range (hvr y hy)
    have hml : (v.map theta).length ≤ 6 := by rw [List.length_map]; exact hvl
    have hMl := told_len (kw := kw) hml
    have hdl : ∀ x ∈ wr (cellsOf (decide ((kw : Int) = 2))) (nuL (psi (v.map theta))), x < 128 := fun x hx => by have := wr_low _ _ x hx; omega
    have hd1 := low_of hdl
    have hd2 : 0 < (((wr (cellsOf (decide ((kw : Int) = 2))) (nuL (psi (v.map theta)))).map Nat.toUInt8).toArray).size := by rw [List.size_toArray, List.length_map]; exact told_pos hk23 hmr (by rw [List.length_map]; exact hv0)
    have hd3 : (((wr (cellsOf (decide ((kw : Int) = 2))) (nuL (psi (v.map theta)))).map Nat.toUInt8).toArray).size ≤ sizeLine := by rw [sizeLine_eq, List.size_toArray, List.length_map]; omega
    k_steps
    refine wpF_of_any ?_
    k_steps
    rename Fr _ _ _ _ => F14
    rename News _ _ _ _ => N14
    obtain ⟨tM, F15⟩ : ∃ tM, Fr s₁.heap s₁.heap.objs.size _ (up (up (up (up (up (up (up (up (up (up (up (fun _ => none) (PySem.Str.ofString "script") (some (.ref l0))) (PySem.Str.ofString "draws") (some (.ref D1))) (PySem.Str.ofString "width") (some (.int (kw : Int) tw))) (PySem.Str.ofString "cells") (some (.ref D2))) (PySem.Str.ofString "letters") (some (.ref D3))) (PySem.Str.ofString "text") (some (.str (mkS (wr (cellsOf (decide ((kw : Int) = 2))) (nuL (psi v)))) tt))) (PySem.Str.ofString "place") (vP)) (PySem.Str.ofString "letter") (vL)) (PySem.Str.ofString "grown") (vG)) (PySem.Str.ofString "told") (vT)) (PySem.Str.ofString "turned") (some (.str (mkS (wr (cellsOf (decide ((kw : Int) = 2))) (nuL (psi (v.map theta))))) tM))) := ⟨_, F14⟩
    clear F14
    refine wpF_clean (s₁ := s₁) F15 rfl fun tk6 => ?_
    refine execsF_cons (wpF_of_any ?_)
    k_steps
    rename Fr _ _ _ _ => F16
    rename News _ _ _ _ => N16
    rename IntsAre _ _ => hI16
    rw [mates_eq hvr] at hI16
    refine wpF_clean (s₁ := s₁) F16 rfl fun tk7 => ?_
    refine execsF_cons (wpF_of_any ?_)
    k_steps
    refine Hold.in ?_
    (k_dflt (refine' (written_c _ _ _ _ _ D2 _ cv.toList (v.map theta) hI16 (by rw [hI16.length]; exact hml) (cellsOf (decide ((kw : Int) = 2))) hcs hmr (cellsOf_len _) (cellsOf_le3 _)) _ _ _ _ _ _ _ _ _ _ _ _ _ _ _ _ ?k1eb ?k2eb ?k3eb ?k5eb ?kKeb ?kpeb ?kdeb ?kueb ?kReb; (case k1eb => k_asm); (case k2eb => k_asm); (case k3eb => k_asm); (case k5eb => k_asm); (case kKeb => exact rfl); (case kpeb => exact ⟨News.isList N16 (.head _), by rw [Array.toArray_toList]; exact News.isList N16 (.tail _ (.tail _ (.head _)))⟩); (case kdeb => ktr_room); (case kueb => ktr_units); k_whole)); intro r9 h9 tk9 k9 p9
    obtain ⟨tW, rfl⟩ := p9
    have F17 := Fr.grownK F16 k9
    clear F16 N16 k9 hI16
    k_steps
    rw [beq_self_eq_true]
    exact hret _ _ (Fr.keep F17)
  | cons a tA hus ih =>
    intro d i tt vP vL vG vT hv hi
    refine EnRest.succ ?_
    intro t oE oI h10 tk10 F11 N11
    have F12 : Fr s₁.heap s₁.heap.objs.size h10 (up (up (up (up (up (up (up (up (up (up (fun _ => none) (PySem.Str.ofString "script") (some (.ref l0))) (PySem.Str.ofString "draws") (some (.ref D1))) (PySem.Str.ofString "width") (some (.int (kw : Int) tw))) (PySem.Str.ofString "cells") (some (.ref D2))) (PySem.Str.ofString "letters") (some (.ref D3))) (PySem.Str.ofString "text") (some (.str (mkS (wr (cellsOf (decide ((kw : Int) = 2))) (nuL (psi d)))) tt))) (PySem.Str.ofString "place") (some (.int (i : Int) t))) (PySem.Str.ofString "letter") (some (.int a tA))) (PySem.Str.ofString "grown") (vG)) (PySem.Str.ofString "told") (vT)) := by
      refine Eq.mp (congrArg (fun m => Fr _ _ _ m) ?_) F11
      exact Eq.trans (congrArg (fun m => up m _ _) (up_set3 (by decide) (by decide) (by decide))) (up_set2 (by decide) (by decide))
    have N12 : News s₁.heap s₁.heap.objs.size h10 [(e, oE), (it, oI), (D3, LCg.lst ys), (D2, PySem.W.listOf cv n2)] := N11
    clear F11 N11
    refine cut_next (s₁ := s₁) (o1 := (e, oE)) (o2 := (it, oI)) (news := [(D3, LCg.lst ys), (D2, PySem.W.listOf cv n2)]) (h₀ := s₁.heap) (L := s₁.heap.objs.size) (fun tt vP vL vG vT => up (up (up (up (up (up (up (up (up (up (fun _ => none) (PySem.Str.ofString "script") (some (.ref l0))) (PySem.Str.ofString "draws") (some (.ref D1))) (PySem.Str.ofString "width") (some (.int (kw : Int) tw))) (PySem.Str.ofString "cells") (some (.ref D2))) (PySem.Str.ofString "letters") (some (.ref D3))) (PySem.Str.ofString "text") (some (.str (mkS (wr (cellsOf (decide ((kw : Int) = 2))) (nuL (psi (d ++ [a]))))) tt))) (PySem.Str.ofString "place") (vP)) (PySem.Str.ofString "letter") (vL)) (PySem.Str.ofString "grown") (vG)) (PySem.Str.ofString "told") (vT)) ?_ ?_
    · intro h11 tk11 tt2 vP2 vL2 vG2 vT2 F13 N13
      refine ⟨h11, tk11, _, [(D3, LCg.lst ys), (D2, PySem.W.listOf cv n2)], rfl, F13, N13, .head _, ?_, ih (d ++ [a]) (i + 1) tt2 vP2 vL2 vG2 vT2 (by rw [hv, List.append_assoc]; rfl) (by rw [List.length_append, hi]; rfl)⟩
      intro p hp
      have hie' : @LT.lt Nat _ it e := hie
      have hDe' : @LT.lt Nat _ D3 it := hDe
      have hCe' : @LT.lt Nat _ D2 it := hCe
      simp only [List.mem_cons, List.not_mem_nil, or_false] at hp
      rcases hp with rfl | rfl
      · simp only [List.mem_cons, List.not_mem_nil, or_false, not_or]
        exact ⟨Nat.ne_of_lt (Nat.lt_trans hDe' hie'), Nat.ne_of_lt hDe'⟩
      · simp only [List.mem_cons, List.not_mem_nil, or_false, not_or]
        exact ⟨Nat.ne_of_lt (Nat.lt_trans hCe' hie'), Nat.ne_of_lt hCe'⟩
    clear ih
    intro QT hnext
    refine wpF_clean (s₁ := s₁) F12 rfl fun tk5 => ?_
    have ha := hvr a (by rw [hv]; simp)
    have hd : ∀ x ∈ d, 0 ≤ x ∧ x < 6 := fun x hx => hvr x (by rw [hv]; simp [hx])
    have hdl : d.length + 1 ≤ 6 := by rw [hv, List.length_append, List.length_cons] at hvl; omega
    obtain ⟨ha0, ha6⟩ := ha
    obtain ⟨tc, htc⟩ := cell_at hcs (cellsOf_len _) ha0 ha6
    have htl : (mkS (wr (cellsOf (decide ((kw : Int) = 2))) (nuL (psi d)))).length ≤ 400 := by rw [mkS_len]; exact told_len (by omega)
    have hcl : (mkS ((cellsOf (decide ((kw : Int) = 2))).getD a.toNat [])).length ≤ 3 := by rw [mkS_len]; exact cell_len (cellsOf_le3 _) _
    refine execsF_cons ?_
    refine execF_Assign ?_ (by rfl)
    refine evalF_Call ?_
    k_steps
    refine callWithF_K (by assumption) (by k_is) ?_ (by rfl) (by rfl)
    k_steps
    refine item_listL (l := cv.toList) (by rw [Array.toArray_toList]; exact News.isList N12 (.tail _ (.tail _ (.tail _ (.head _))))) ha0 (by omega) htc ?_
    k_steps
    rw [mkS_app]
    have hal := app_len hk23 hd ⟨ha0, ha6⟩
    generalize el : wr (cellsOf (decide ((kw : Int) = 2))) (nuL (psi d)) ++ (cellsOf (decide ((kw : Int) = 2))).getD a.toNat [] = l at hal ⊢
    have hl128 : ∀ x ∈ l, x < 128 := by
      intro x hx
      rw [← el, List.mem_append] at hx
      rcases hx with hx | hx
      · have := wr_low _ _ x hx; omega
      · have := cell_low _ _ x hx; omega
    have hlz : l.length ≤ 2000 := by rw [mkS_len] at htl hcl; rw [← el, List.length_append]; omega
    have hl0 : 0 < l.length := by rw [hal, Nat.add_mul]; omega
    (k_dflt (refine' (closed_c _ _ _ _ l _ kw _ ((nuL (psi d)).length + 1) (by omega) (by omega) hal hl0 hlz hl128) _ _ _ _ _ _ _ _ _ _ _ _ _ _ _ _ ?k1ta ?k2ta ?k3ta ?k5ta ?kKta ?kpta ?kdta ?kuta ?kRta; (case k1ta => k_asm); (case k2ta => k_asm); (case k3ta => k_asm); (case k5ta => k_asm); (case kKta => exact rfl); (case kpta => trivial); (case kdta => ktr_room); (case kuta => ktr_units); k_whole)); intro r9 h9 tk9 k9 p9
    obtain ⟨c, tG, hc, hc1, hc2, rfl⟩ := p9
    have F13 := Fr.grownK F12 k9
    have N13 := News.keeps N12 k9
    rw [grown_eq hk23 hd ⟨ha0, ha6⟩ el.symm hc hc1 hc2]
    clear F12 N12 k9 hc hc1 hc2
    refine wpF_of_any ?_
    k_steps
    rename Fr _ _ _ _ => F14
    rename News _ _ _ _ => N14
    have F15 : Fr s₁.heap s₁.heap.objs.size _ (up (up (up (up (up (up (up (up (up (up (fun _ => none) (PySem.Str.ofString "script") (some (.ref l0))) (PySem.Str.ofString "draws") (some (.ref D1))) (PySem.Str.ofString "width") (some (.int (kw : Int) tw))) (PySem.Str.ofString "cells") (some (.ref D2))) (PySem.Str.ofString "letters") (some (.ref D3))) (PySem.Str.ofString "text") (some (.str (mkS (wr (cellsOf (decide ((kw : Int) = 2))) (nuL (psi d)))) tt))) (PySem.Str.ofString "place") (some (.int (i : Int) t))) (PySem.Str.ofString "letter") (some (.int a tA))) (PySem.Str.ofString "grown") (some (.str (mkS (wr (cellsOf (decide ((kw : Int) = 2))) (nuL (psi (d ++ [a]))))) tG))) (PySem.Str.ofString "told") (vT)) := Eq.mp (congrArg (fun m => Fr _ _ _ m) (up_set1 (by decide))) F14
    refine wpF_clean (s₁ := s₁) F15 rfl fun tk6 => ?_
    clear F14
    refine execsF_cons (wpF_of_any ?_)
    k_steps
    refine Hold.in ?_
    rename Fr _ _ _ _ => F16
    rename News _ _ _ _ => N16
    rename IntsAre _ _ => hI16
    have ei : List.take ((i : Int) + 1).toNat v = d ++ [a] := by
      rw [hv, hi, show ((d.length : Int) + 1).toNat = d.length + 1 by omega, List.take_append]
      simp [List.take_of_length_le]
    rw [ei] at hI16
    have hda : ∀ x ∈ d ++ [a], 0 ≤ x ∧ x < 6 := fun x hx => by
      rcases List.mem_append.mp hx with h | h
      · exact hd x h
      · rw [List.mem_singleton.mp h]; exact ⟨ha0, ha6⟩
    have hdal : (d ++ [a]).length ≤ 6 := by rw [List.length_append]; exact hdl
    (k_dflt (refine' (written_c _ _ _ _ _ D2 _ cv.toList (d ++ [a]) hI16 (by rw [hI16.length]; exact hdal) (cellsOf (decide ((kw : Int) = 2))) hcs hda (cellsOf_len _) (cellsOf_le3 _)) _ _ _ _ _ _ _ _ _ _ _ _ _ _ _ _ ?k1tb ?k2tb ?k3tb ?k5tb ?kKtb ?kptb ?kdtb ?kutb ?kRtb; (case k1tb => k_asm); (case k2tb => k_asm); (case k3tb => k_asm); (case k5tb => k_asm); (case kKtb => exact rfl); (case kptb => exact ⟨News.isList N16 (.head _), by rw [Array.toArray_toList]; exact News.isList N16 (.tail _ (.tail _ (.tail _ (.tail _ (.head _)))))⟩); (case kdtb => ktr_room); (case kutb => ktr_units); k_whole)); intro r9 h9 tk9 k9 p9
    obtain ⟨tW, rfl⟩ := p9
    have F17 := Fr.grownK F16 k9
    have N17 : News s₁.heap s₁.heap.objs.size _ [(e, oE), (it, oI), (D3, LCg.lst ys), (D2, PySem.W.listOf cv n2)] := fun p hp => News.keeps N16 k9 p (.tail _ hp)
    clear F16 N16 k9 ei hI16
    k_steps
    · rename ((_ != _) = true) => hne
      rw [bne_self_eq_false] at hne
      cases hne
    dsimp only
    refine wpF_clean (s₁ := s₁) F17 rfl fun tk7 => ?_
    refine execsF_cons (wpF_of_any ?_)
    k_steps
    refine Hold.in ?_
    rename Fr _ _ _ _ => F18
    rename News _ _ _ _ => N18
    have hdd : PySem.Str.ofString ".." ++ mkS (wr (cellsOf (decide ((kw : Int) = 2))) (nuL (psi d))) = mkS ([46, 46] ++ wr (cellsOf (decide ((kw : Int) = 2))) (nuL (psi d))) := by
      rw [← mkS_app]; rfl
    rw [hdd] at N18
    rw [mkS_len] at htl
    obtain ⟨tz, hTup⟩ : ∃ tz : Tok, IsTup _ _ #[.str (mkS (wr (cellsOf (decide ((kw : Int) = 2))) (nuL (psi d)))) tt, .str (mkS ([46, 46] ++ wr (cellsOf (decide ((kw : Int) = 2))) (nuL (psi d)))) tz] := ⟨_, News.isTup N18 (.head _)⟩
    have hx9 : (mkS (wr (cellsOf (decide ((kw : Int) = 2))) (nuL (psi d)))).length ≤ 100000 := by rw [mkS_len]; omega
    have hy9 : (mkS ([46, 46] ++ wr (cellsOf (decide ((kw : Int) = 2))) (nuL (psi d)))).length ≤ 100000 := by rw [mkS_len, List.length_append]; simp only [List.length_cons, List.length_nil]; omega
    (k_dflt (refine' (loc_c _ _ _ _ _ _ tt tz _ hx9 hy9) _ _ _ _ _ _ _ _ _ _ _ _ _ _ _ _ ?k1tc ?k2tc ?k3tc ?k5tc ?kKtc ?kptc ?kdtc ?kutc ?kRtc; (case k1tc => k_asm); (case k2tc => k_asm); (case k3tc => k_asm); (case k5tc => k_asm); (case kKtc => exact rfl); (case kptc => exact hTup); (case kdtc => ktr_room); (case kutc => ktr_units); k_whole)); intro r9 h9 tk9 k9 p9
    obtain ⟨tL, rfl⟩ := p9
    have F19 := Fr.grownK F18 k9
    have N19 : News s₁.heap s₁.heap.objs.size _ [(e, oE), (it, oI), (D3, LCg.lst ys), (D2, PySem.W.listOf cv n2)] := fun p hp => News.keeps N18 k9 p (.tail _ hp)
    clear F18 N18 k9 hdd hTup
    rw [show mkS (wr (cellsOf (decide ((kw : Int) = 2))) (nuL (psi d))) ++ PySem.Str.ofString "." ++ mkS ([46, 46] ++ wr (cellsOf (decide ((kw : Int) = 2))) (nuL (psi d))) = mkS (wr (cellsOf (decide ((kw : Int) = 2))) (nuL (psi d)) ++ 46 :: 46 :: 46 :: wr (cellsOf (decide ((kw : Int) = 2))) (nuL (psi d))) by
      rw [show PySem.Str.ofString "." = mkS [46] from rfl, mkS_app, mkS_app, List.append_assoc]; rfl]
    k_steps
    refine Hold.in ?_
    have ha46 : ∀ x ∈ wr (cellsOf (decide ((kw : Int) = 2))) (nuL (psi d)), x ≠ 46 := fun x hx => by have := wr_low _ _ x hx; omega
    have hgl : (wr (cellsOf (decide ((kw : Int) = 2))) (nuL (psi (d ++ [a])))).length ≤ 1000 := by have := told_len (kw := kw) hdal; omega
    (k_dflt (refine' (ellipsis_c _ _ _ _ _ _ tL tG ha46 (by omega) hgl told_prefix told_suffix) _ _ _ _ _ _ _ _ _ _ _ _ _ _ _ _ ?k1td ?k2td ?k3td ?k5td ?kKtd ?kptd ?kdtd ?kutd ?kRtd; (case k1td => k_asm); (case k2td => k_asm); (case k3td => k_asm); (case k5td => k_asm); (case kKtd => exact rfl); (case kptd => trivial); (case kdtd => ktr_room); (case kutd => ktr_units); k_whole)); intro r9 h9 tk9 k9 p9
    subst p9
    rw [told_iff hk23 hd ⟨ha0, ha6⟩]
    have F20 := Fr.grownK F19 k9
    have N20 := News.keeps N19 k9
    clear F19 N19 k9
    k_steps
    rename Fr _ _ _ _ => F21
    rename News _ _ _ _ => N21
    have F22 : Fr s₁.heap s₁.heap.objs.size _ (up (up (up (up (up (up (up (up (up (up (fun _ => none) (PySem.Str.ofString "script") (some (.ref l0))) (PySem.Str.ofString "draws") (some (.ref D1))) (PySem.Str.ofString "width") (some (.int (kw : Int) tw))) (PySem.Str.ofString "cells") (some (.ref D2))) (PySem.Str.ofString "letters") (some (.ref D3))) (PySem.Str.ofString "text") (some (.str (mkS (wr (cellsOf (decide ((kw : Int) = 2))) (nuL (psi d)))) tt))) (PySem.Str.ofString "place") (some (.int (i : Int) t))) (PySem.Str.ofString "letter") (some (.int a tA))) (PySem.Str.ofString "grown") (some (.str (mkS (wr (cellsOf (decide ((kw : Int) = 2))) (nuL (psi (d ++ [a]))))) tG))) (PySem.Str.ofString "told") (some (.bool (!d.tail.contains a)))) := Eq.mp (congrArg (fun m => Fr _ _ _ m) up_up) F21
    refine wpF_clean (s₁ := s₁) F22 rfl fun tk8 => ?_
    clear F21
    refine execsF_cons (wpF_of_any ?_)
    k_steps
    · rename ((_ != _) = true) => hne
      rw [told_same hv hi] at hne
      cases hne
    rename Fr _ _ _ _ => F23
    rename News _ _ _ _ => N23
    have N24 : News s₁.heap s₁.heap.objs.size _ [(e, oE), (it, oI), (D3, LCg.lst ys), (D2, PySem.W.listOf cv n2)] := fun p hp => N23 p (.tail _ hp)
    clear N23
    dsimp only
    refine wpF_clean (s₁ := s₁) F23 rfl fun tk9 => ?_
    refine execsF_cons (wpF_of_any ?_)
    k_steps
    rename Fr _ _ _ _ => F25
    rename News _ _ _ _ => N25
    refine wpF_of_any (wpAny_execs_nil ?_)
    refine hnext _ _ tG (some (.int (i : Int) t)) (some (.int a tA)) (some (.str (mkS (wr (cellsOf (decide ((kw : Int) = 2))) (nuL (psi (d ++ [a]))))) tG)) (some (.bool (!d.tail.contains a))) ?_ N25
    exact Eq.mp (congrArg (fun m => Fr _ _ _ m) (up_set4 (by decide) (by decide) (by decide) (by decide))) F25
end Mine
end
open PySem PySem.W PyProof.Rows
theorem PySem.Challenge.cw_wo0017_01_holds : PySem.Challenge.rw_wo0017_01.Holds :=
  Mine.law_holds
