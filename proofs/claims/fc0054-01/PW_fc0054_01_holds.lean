import PyProof.Rows.All
import Wide.All
import OpenK.AllK
import Wide.FinOn
import PySem.Challenge.RW_fc0054_01
set_option Elab.async false
set_option maxRecDepth 100000
set_option maxHeartbeats 8000000
set_option rowWalk.seconds 0
set_option linter.all false
namespace Mine
section
open PySem PySem.W PySem.Spec PySem.Calls PyProof.Rows
section
def liveO : Obj → Option Obj
  | ⟨_, _, .freed, _⟩ => none
  | o => some o
/-- one walk along the heap: the objects at rising addresses -/
def pickAt : List Obj → Nat → List Nat → List (Option Obj)
  | [], _, _ => []
  | _ :: _, _, [] => []
  | o :: os, i, a :: as => match Nat.beq i a with
    | true => liveO o :: pickAt os (Nat.succ i) as
    | false => pickAt os (Nat.succ i) (a :: as)
theorem sub_succ_eq {i p : Nat} (h : i + 1 ≤ p) : p - i = (p - Nat.succ i) + 1 := by
  show p - i = (p - (i + 1)) + 1
  omega
theorem pickAt_spec : ∀ (os : List Obj) (i : Nat) (l : List (Addr × Obj)), pickAt os i (l.map (·.1)) = l.map (fun p => some p.2) → ∀ p ∈ l, i ≤ p.1 ∧ (os[p.1 - i]?).bind liveO = some p.2
  | [], i, l, h => by
    cases l with
    | nil => intro p hp; cases hp
    | cons q r => simp [pickAt] at h
  | o :: os, i, [], _ => fun p hp => nomatch hp
  | o :: os, i, q :: r, h => by
    intro p hp
    rw [List.map_cons, List.map_cons] at h
    unfold pickAt at h
    by_cases e : i = q.1
    · have hb : Nat.beq i q.1 = true := by rw [e]; exact Nat.beq_refl _
      rw [hb] at h
      simp only [List.cons.injEq] at h
      rcases List.mem_cons.mp hp with rfl | hp
      · refine ⟨Nat.le_of_eq e, ?_⟩
        rw [← e, Nat.sub_self]
        simpa using h.1
      · obtain ⟨h1, h2⟩ := pickAt_spec os (Nat.succ i) r h.2 p hp
        have h1' : i + 1 ≤ p.1 := h1
        refine ⟨Nat.le_of_succ_le h1, ?_⟩
        have e3 : p.1 - i = (p.1 - Nat.succ i) + 1 := sub_succ_eq h1'
        rw [e3, List.getElem?_cons_succ]
        exact h2
    · have hb : Nat.beq i q.1 = false := by
        cases hq : Nat.beq i q.1 with
        | false => rfl
        | true => exact absurd (Nat.eq_of_beq_eq_true hq) e
      rw [hb] at h
      have h' : pickAt os (Nat.succ i) ((q :: r).map (·.1)) = (q :: r).map (fun p => some p.2) := h
      obtain ⟨h1, h2⟩ := pickAt_spec os (Nat.succ i) (q :: r) h' p hp
      have h1' : i + 1 ≤ p.1 := h1
      refine ⟨Nat.le_of_succ_le h1, ?_⟩
      have e3 : p.1 - i = (p.1 - Nat.succ i) + 1 := sub_succ_eq h1'
      rw [e3, List.getElem?_cons_succ]
      exact h2
theorem lookup_mem {l : List (Addr × Obj)} {a : Addr} {o : Obj} (h : l.lookup a = some o) : (a, o) ∈ l := by
  induction l with
  | nil => cases h
  | cons p r ih =>
    rw [List.lookup_cons] at h
    split at h
    · rename_i q
      have e : a = p.1 := by simpa using q
      have e2 : p.2 = o := Option.some.inj h
      rw [e, ← e2]
      exact List.mem_cons_self ..
    · exact List.mem_cons_of_mem _ (ih h)
theorem in_of_pick {K : Frag} {h : Heap} (e : pickAt h.objs.toList 0 (K.map (·.1)) = K.map fun p => some p.2) : K.In h := by
  intro a o q
  have := (pickAt_spec _ _ _ e (a, o) (lookup_mem q)).2
  unfold Heap.get?
  rw [Nat.sub_zero, Array.getElem?_toList] at this
  cases hx : h.objs[a]? with
  | none => rw [hx] at this; cases this
  | some x =>
    rw [hx] at this
    obtain ⟨c, d, dt, sl⟩ := x
    cases dt <;> first | exact this | cases this
theorem pick_of {K : Params → Frag} {as : List Addr} (e : ∀ P, as = (K P).map (·.1)) (w : World) (s : Shared) (x : pickAt s.heap.objs.toList 0 as = (K w.params).map fun p => some p.2) : InK K w s.heap :=
  in_of_pick (by rw [← e w.params]; exact x)
def fastHook (K : Params → Frag) (as : List Addr) (e : ∀ P, as = (K P).map (·.1)) : Hook :=
  ⟨List (Option Obj), fun s => pickAt s.heap.objs.toList 0 as, fun w => (K w.params).map fun p => some p.2, InK K, pick_of e, InK.keeps⟩
end
section
/-- the codes that hold a buffer while they run -/
def holdIds : List String := ["bytearray.__contains__", "bytearray.__mod__", "bytearray.__rmod__", "_struct.pack_into.held", "bytearray.find.held"] ++ Builtin.Bytes.decodersThatHold
def isHold : Code → Bool
  | .builtin i _ => holdIds.contains i
  | _ => false
/-- no code around holds a buffer -/
def Free (Γ : PySem.Ctx) : Prop := isHold Γ.code = false ∧ ∀ q ∈ Γ.below, isHold q.1 = false
def wpN {α : Type} (M : Model) (A : Around) (t : Sem α) (Q : α → Shared → Prop) (E : Value → Shared → Prop) (s : Shared) : Prop :=
  ∀ Γ p, Γ.In A → Free Γ → Sem.wp M Γ t (fun a _ s' => Q a s') (fun e _ s' => E e s') p s
def codeN (M : Model) (A : Around) (c : Code) (R : Result → Shared → Prop) (s : Shared) : Prop :=
  ∀ Γ p, Γ.code = c → Γ.Below A → Free Γ → wpCode M Γ R p s
section
variable {α β : Type} {M : Model} {A : Around} {E : Value → Shared → Prop} {s : Shared}
theorem wpN_any {t : Sem α} {Q : α → Shared → Prop} (h : wpAny M A t Q E s) : wpN M A t Q E s := fun Γ p hΓ _ => h Γ p hΓ
theorem codeN_any {c : Code} {R : Result → Shared → Prop} (h : codeAny M A c R s) : codeN M A c R s := fun Γ p hc hΓ _ => h Γ p hc hΓ
theorem wpN_mono {t : Sem α} {Q Q' : α → Shared → Prop} {E' : Value → Shared → Prop} (h : wpN M A t Q E s) (hQ : ∀ a s, Q a s → Q' a s) (hE : ∀ e s, E e s → E' e s) : wpN M A t Q' E' s :=
  fun Γ p hΓ f => Sem.wp_mono M Γ t (fun a _ s => hQ a s) (fun e _ s => hE e s) p s (h Γ p hΓ f)
theorem codeN_mono {c : Code} {R R' : Result → Shared → Prop} (h : codeN M A c R s) (hR : ∀ r s, R r s → R' r s) : codeN M A c R' s :=
  fun Γ p hc hΓ f => wpCode_mono hR (h Γ p hc hΓ f)
theorem wpN_bind {m : Sem α} {f : α → Sem β} {Q : β → Shared → Prop} (h : wpN M A m (fun a s' => wpN M A (f a) Q E s') E s) : wpN M A (m >>= f) Q E s := fun Γ p hΓ fr => by
  rw [Sem.wp_bind']
  exact Sem.wp_mono M Γ m (fun a p' s' h' => h' Γ p' hΓ fr) (fun _ _ _ h' => h') p s (h Γ p hΓ fr)
theorem wpN_bindA {m : Sem α} {f : α → Sem β} {Q : β → Shared → Prop} (h : wpAny M A m (fun a s' => wpN M A (f a) Q E s') E s) : wpN M A (m >>= f) Q E s := wpN_bind (wpN_any h)
theorem wpN_pure {a : α} {Q : α → Shared → Prop} (h : Q a s) : wpN M A (pure a) Q E s := fun _ _ _ _ => h
theorem wpN_holding {vs : List Value} {m : Sem α} {Q : α → Shared → Prop} (h : wpN M A m Q E s) : wpN M A (holding vs m) Q E s :=
  fun Γ p hΓ f => by rw [Sem.wp_holding]; exact h Γ p hΓ f
theorem wpN_operate {vs : List Value} {m : Sem Value} {Q : Value → Shared → Prop} (h : wpN M A m Q E s) : wpN M A (operate vs m) Q E s :=
  fun Γ p hΓ f => by rw [Sem.wp_operate]; exact h Γ p hΓ f
theorem wpN_standAt {pos : Pos} {Q : Unit → Shared → Prop} (h : Q () s) : wpN M A (standAt pos) Q E s := fun _ _ _ _ => h
theorem wpN_onRaise {m : Sem α} {k : Value → Sem Unit} {Q : α → Shared → Prop}
    (h : wpN M A m Q (fun e s' => wpN M A (k e) (fun _ s'' => E e s'') E s') s) : wpN M A (m.onRaise k) Q E s := fun Γ p hΓ f => by
  rw [Sem.wp_onRaise]
  exact Sem.wp_mono M Γ m (fun _ _ _ h' => h') (fun e p' s' h' => h' Γ p' hΓ f) p s (h Γ p hΓ f)
theorem Free.enter {Γ : PySem.Ctx} {c : Code} {h : Option Value} {p : Pos} (f : Free Γ) (hc : isHold c = false) : Free (Γ.enter c h p) :=
  ⟨hc, fun q hq => by
    rcases List.mem_cons.mp hq with rfl | hq
    · exact f.1
    · exact f.2 q hq⟩
theorem wpN_runValue {c : Code} {Q : Value → Shared → Prop} (hn : isHold c = false)
    (hc : codeN M A c (fun r s' => match r with | .ok (.ret v) => Q v s' | .ok _ => False | .error e => E e s') s) :
    wpN M A (runValue c) Q E s := fun Γ p hΓ f => by rw [Sem.wp_runValue]; exact hc _ p rfl (hΓ.enter c none p (by intro x; cases x)) (f.enter hn)
theorem wpN_call {f : Value} {pos : List Value} {kw : List (Str × Value)} {Q : Value → Shared → Prop}
    (hc : codeN M A (.call f ⟨pos, kw⟩) (fun r s' => match r with | .ok (.ret v) => Q v s' | .ok _ => False | .error e => E e s') s) :
    wpN M A (call f pos kw) Q E s := wpN_runValue rfl hc
theorem wpN_run {c : Code} {h : Option Value} {Q : Flow → Shared → Prop} (hn : isHold c = false)
    (hc : codeN M (A.mark h) c (fun r s' => match r with | .ok f => Q f s' | .error e => E e s') s) (hnb : h ≠ some byPass := by intro x; cases x) :
    wpN M A (run c h) Q E s :=
  fun Γ p hΓ f => by rw [Sem.wp_run]; exact hc _ p rfl (hΓ.enter c h p hnb) (f.enter hn)
theorem codeN_of_tree {c : Code} {R : Result → Shared → Prop}
    (h : wpN M (A.under c) (M.den c) (fun fin s' => match fin with | .done f => R (.ok f) s' | .again c' => c'.quiet = true ∧ isHold c' = false ∧ codeN M A c' R s')
      (fun e s' => R (.error e) s') s) : codeN M A c R s := fun Γ p hc hΓ f => by
  rw [wpCode_iff_wp, hc]
  refine Sem.wp_mono M Γ _ (fun fin p' s' h' => ?_) (fun _ _ _ h' => h') p s (h Γ p (hc ▸ hΓ.in) f)
  cases fin with
  | done f => exact h'
  | again c' => exact ⟨h'.1, h'.2.2 (Γ.goto c') p' rfl (hΓ.goto c') ⟨h'.2.1, f.2⟩⟩
theorem not_held {i : String} (hc : holdIds.contains i = false) : Builtin.Bytes.decodersThatHold.contains i = false := by
  cases hd : Builtin.Bytes.decodersThatHold.contains i with
  | false => rfl
  | true =>
    exfalso
    have h1 : holdIds.contains i = true := by
      rw [List.contains_iff_mem] at hd ⊢
      exact List.mem_append_right _ hd
    rw [h1] at hc
    cases hc
theorem hold_x {i : String} {a : Args} (h : isHold (.builtin i a) = false) : holdIds.contains i = false := h
theorem wpN_exported {v : Value} {Q : Bool → Shared → Prop} (h : Q false s) : wpN M A (Builtin.Bytes.exported v) Q E s := fun Γ p hΓ f => by
  unfold Builtin.Bytes.exported
  show Q (((Γ.code, p) :: Γ.below).any _) s
  rw [List.any_eq_false.mpr]
  · exact h
  · intro q hq
    have hc : isHold q.1 = false := by
      rcases List.mem_cons.mp hq with rfl | hq
      · exact f.1
      · exact f.2 q hq
    obtain ⟨c, pos⟩ := q
    split
    all_goals first
      | exact Bool.false_ne_true
      | (exfalso; rename_i e; cases e; have h3 := hold_x (show isHold (Code.builtin _ _) = false from hc); revert h3; decide +kernel)
      | (rename_i e; cases e; rw [not_held (hold_x (show isHold (Code.builtin _ _) = false from hc)), Bool.and_false]; exact Bool.false_ne_true)
end
end
section
section
variable {M : Model} {A : Around} {E : Value → Shared → Prop} {s : Shared} {env : Env}
theorem N_execs_nil {Q : Flow → Shared → Prop} (h : Q .next s) : wpN M A (execs [] env) Q E s := wpN_pure (a := Flow.next) h
theorem N_execs_cons {st rest} {Q : Flow → Shared → Prop} (h : wpN M A (exec st env) (fun f s' => match f with | .next => wpN M A (execs rest env) Q E s' | f => Q f s') E s) : wpN M A (execs (st :: rest) env) Q E s := by
  rw [execs_cons]
  refine wpN_bind (wpN_mono h (fun f s' h' => ?_) fun _ _ x => x)
  cases f <;> first | exact h' | exact wpN_pure h'
theorem N_execs_consA {st rest} {Q : Flow → Shared → Prop} (h : wpAny M A (exec st env) (fun f s' => match f with | .next => wpN M A (execs rest env) Q E s' | f => Q f s') E s) : wpN M A (execs (st :: rest) env) Q E s := N_execs_cons (wpN_any h)
theorem N_If {test body orelse pos} {Q : Flow → Shared → Prop}
    (h : wpN M A (isTrue test env (eval test env)) (fun b s₂ => if b then wpN M A (execs body env) Q E s₂ else wpN M A (execs orelse env) Q E s₂) E s) : wpN M A (exec (.If test body orelse pos) env) Q E s := by
  rw [exec_If]
  refine wpN_bind (wpN_standAt (wpN_bind (wpN_mono h (fun b s₂ h₂ => ?_) fun _ _ x => x)))
  cases b <;> exact h₂
theorem N_isTrue_or_nil {pos whole} {Q : Bool → Shared → Prop} (h : Q false s) : wpN M A (isTrue (.BoolOp .Or [] pos) env whole) Q E s := wpN_pure (a := false) h
theorem N_isTrue_or {x rest pos whole} {Q : Bool → Shared → Prop}
    (h : wpN M A (isTrue x env (eval x env)) (fun c s' => if c then Q true s' else wpN M A (isTrue (.BoolOp .Or rest pos) env whole) Q E s') E s) :
    wpN M A (isTrue (.BoolOp .Or (x :: rest) pos) env whole) Q E s := by
  show wpN M A (do
    match BoolOp.Or, ← isTrue x env (eval x env) with
    | .And, false => pure false
    | .Or, true => pure true
    | _, _ => allTrue .Or rest env) Q E s
  refine wpN_bind (wpN_mono h (fun c s' h' => ?_) fun _ _ x => x)
  cases c
  · exact h'
  · exact wpN_pure h'
theorem N_isTrue_Compare1 {l op r pos whole} {Q : Bool → Shared → Prop}
    (h : wpN M A (eval l env) (fun a s₁ => wpN M A (eval r env) (fun b s₂ => wpN M A (compareOp op a b) (fun c s₃ => wpN M A (truthy c) Q E s₃) E s₂) E s₁) E s)
    (hm : behindInMarks op r = false := by with_unfolding_all rfl) : wpN M A (isTrue (.Compare l [op] [r] pos) env whole) Q E s := by
  rw [isTrue_Compare1, markedBehindIn_of_false hm]
  exact wpN_bind (wpN_mono h (fun a s₁ h₁ => wpN_bind (wpN_holding (wpN_mono h₁ (fun b s₂ h₂ => wpN_bind (wpN_standAt (wpN_bind (wpN_operate (wpN_mono h₂ (fun c s₃ h₃ => wpN_holding h₃) fun _ _ x => x))))) fun _ _ x => x))) fun _ _ x => x)
theorem N_Compare1 {l op r pos} {Q : Value → Shared → Prop}
    (h : wpN M A (eval l env) (fun a s₁ => wpN M A (eval r env) (fun b s₂ => wpN M A (compareOp op a b) Q E s₂) E s₁) E s)
    (hm : behindInMarks op r = false := by with_unfolding_all rfl) : wpN M A (eval (.Compare l [op] [r] pos) env) Q E s := by
  rw [eval_Compare1, markedBehindIn_of_false hm]
  exact wpN_bind (wpN_mono h (fun a s₁ h₁ => wpN_bind (wpN_holding (wpN_mono h₁ (fun b s₂ h₂ => wpN_bind (wpN_standAt (wpN_operate h₂))) fun _ _ x => x))) fun _ _ x => x)
theorem N_Return {e pos} {Q : Flow → Shared → Prop} (h : wpN M A (eval e env) (fun v => Q (.ret v)) E s) : wpN M A (exec (.Return (some e) pos) env) Q E s := by
  rw [exec_Return_some]
  exact wpN_bind (wpN_standAt (wpN_bind (wpN_mono h (fun v s' h' => wpN_pure h') fun _ _ x => x)))
theorem N_Assign_Name {x pos' value pos} {Q : Flow → Shared → Prop}
    (h : wpN M A (eval value env) (fun v s₁ => wpAny M A (storeName env x v) (fun _ => Q .next) E s₁) E s)
    (hs : swapsWith value (some (.Name x pos')) pos.line env = pure false := by rfl) :
    wpN M A (exec (.Assign [.Name x pos'] value pos) env) Q E s := by
  rw [exec_Assign_Name env x pos' value pos hs]
  exact wpN_bind (wpN_standAt (wpN_bind (wpN_mono h (fun v s₁ h₁ => wpN_bind (wpN_standAt (wpN_bindA (wpAny_bindName (wpAny_mono h₁ (fun _ s₂ h₂ => wpN_pure h₂) fun _ _ x => x))))) fun _ _ x => x)))
theorem N_Expr {e pos} {Q : Flow → Shared → Prop} (h : wpN M A (eval e env) (fun v s' => match v with | .ref _ => False | _ => Q .next s') E s)
    (hi : interactive env = false := by rfl) (hs : swapsWith e none pos.line env = pure false := by rfl) :
    wpN M A (exec (.Expr e pos) env) Q E s := by
  rw [exec_Expr env e pos hi hs]
  refine wpN_bind (wpN_standAt (wpN_bind (wpN_mono h (fun v s' h' => ?_) fun _ _ x => x)))
  have hv : ∀ a, v ≠ .ref a := fun a hva => by subst hva; exact h'
  rw [dropValue_plain hv]
  refine wpN_pure ?_
  cases v <;> first | exact h' | exact (hv _ rfl).elim
theorem N_IfExp {test body orelse : Expr} {pos : Pos} {Q : Value → Shared → Prop}
    (h : wpN M A (isTrue test env (eval test env)) (fun b s₁ => if b then wpN M A (eval body env) Q E s₁ else wpN M A (eval orelse env) Q E s₁) E s) :
    wpN M A (eval (.IfExp test body orelse pos) env) Q E s := by
  rw [arm_eval_IfExp]
  refine wpN_bind (wpN_mono h (fun b s₁ h₁ => ?_) fun _ _ x => x)
  cases b <;> exact h₁
theorem N_Unary {op x pos} {Q : Value → Shared → Prop} (h : wpN M A (eval x env) (fun v s₁ => wpAny M A (unaryOp op v) Q E s₁) E s) : wpN M A (eval (.UnaryOp op x pos) env) Q E s := by
  rw [arm_eval_UnaryOp]
  exact wpN_bind (wpN_mono h (fun v s₁ h₁ => wpN_bind (wpN_standAt (wpN_holding (wpN_any h₁)))) fun _ _ x => x)
theorem wpN_rel {vs keep : List Value} {Q : Unit → Shared → Prop} (h : Q () s) : wpN M A (release vs keep) Q E s := fun Γ p _ _ => by rw [Sem.wp_release]; exact h
theorem N_Assign_Subscript {o i pos' value pos} {Q : Flow → Shared → Prop}
    (h : wpAny M A (eval value env) (fun v s₁ => wpAny M A (eval o env) (fun ov s₂ => wpAny M A (eval i env) (fun iv s₃ => wpN M A (setItem ov iv v) (fun _ => Q .next) E s₃) E s₂) E s₁) E s)
    (hs : swapsWith value (some (.Subscript o i pos')) pos.line env = pure false := by rfl) :
    wpN M A (exec (.Assign [.Subscript o i pos'] value pos) env) Q E s := by
  rw [exec_Assign_Subscript o i pos' value pos hs]
  refine wpN_bind (wpN_standAt (wpN_bindA (wpAny_mono h (fun v s₁ h₁ => ?_) fun _ _ x => x)))
  rw [assign_Subscript]
  refine wpN_bind (wpN_bindA (wpAny_holding (wpAny_mono h₁ (fun ov s₂ h₂ => wpN_bindA (wpAny_holding (wpAny_mono h₂ (fun iv s₃ h₃ => wpN_bind (wpN_standAt (wpN_bind (wpN_holding (wpN_mono h₃ (fun _ s₄ h₄ => wpN_rel (wpN_pure h₄)) fun _ _ x => x))))) fun _ _ x => x))) fun _ _ x => x)))
/-- a method's call: the callee found, then called -/
theorem N_method {o name apos args kws pos} {Q : Value → Shared → Prop}
    (hbase : attributeBase o name env (eval o env) = eval o env) (hline : (apos.endLine == pos.line) = true)
    (h : wpAny M A (eval o env) (fun ov s₁ => wpAny M A (calleeOf (methodCallForm (args.length + kws.length) (backTo pos (starEach args env)) (backToKw pos (keywordEach kws env))) o env ov name)
      (fun q s₂ => wpN M A (callWith pos q.1 q.2 (backTo pos (starEach args env)) (backToKw pos (keywordEach kws env))) Q E s₂) E s₁) E s) :
    wpN M A (eval (.Call (.Attribute o name apos) args kws pos) env) Q E s := by
  rw [arm_eval_Call, hbase]
  refine wpN_bindA (wpAny_mono h (fun ov s₁ h₁ => wpN_bind (wpN_standAt ?_)) fun _ _ x => x)
  unfold methodCall
  refine wpN_bindA (wpAny_holding (wpAny_mono h₁ (fun q s₂ h₂ => ?_) fun _ _ x => x))
  have hp : methodCallPos (methodCallForm (args.length + kws.length) (backTo pos (starEach args env)) (backToKw pos (keywordEach kws env))) o env apos pos = pure pos := by
    unfold methodCallPos
    rw [hline, Bool.or_true]
    rfl
  rw [hp]
  exact wpN_bind (wpN_pure h₂)
end
end
section
section
variable {α : Type} {M : Model} {A : Around} {E : Value → Shared → Prop} {s : Shared} {env : Env}
theorem wpN_keep {vs : List Value} {m : Sem α} {Q : α → Shared → Prop} (h : wpN M A m Q E s) : wpN M A (m.keep vs) Q E s :=
  fun Γ p hΓ f => by rw [Sem.wp_keep]; exact h Γ p hΓ f
theorem wpN_onRaise0 {m : Sem α} {k : Value → Sem Unit} {Q : α → Shared → Prop} (h : wpN M A m Q (fun _ _ => False) s) : wpN M A (m.onRaise k) Q E s :=
  wpN_onRaise (wpN_mono h (fun _ _ x => x) fun _ _ x => x.elim)
theorem wpN_noE {t : Sem α} {Q : α → Shared → Prop} (h : wpN M A t Q (fun _ _ => False) s) : wpN M A t Q E s := wpN_mono h (fun _ _ x => x) fun _ _ x => x.elim
theorem wpN_ofEq {t : Sem α} {a : α} {Q : α → Shared → Prop} (e : t = pure a) (h : Q a s) : wpN M A t Q E s := e ▸ wpN_pure h
theorem N_callWith {P : Heap → Prop} {pos : Pos} {f : Value} {first : List Value} {Q : Value → Shared → Prop} {args : List (Bool × Sem Value)} {keywords : List (Option Str × Sem Value)}
    (hk : ∀ h, P h → ∃ k, (k = Keeper.frame ∨ k = Keeper.machine ∨ k = Keeper.boundFrame) ∧ Looks M h (keeperOf f) k)
    (h : wpAny M A (evalArgs f true args keywords) (fun a s₁ => P s₁.heap ∧ wpN M A (call f (first ++ a.pos) a.kw) Q E s₁) E s) : wpN M A (callWith pos f first args keywords) Q E s := by
  unfold callWith
  refine wpN_bindA (wpAny_holding (wpAny_mono h (fun a s₁ h₁ => wpN_bind (wpN_standAt ?_)) fun _ _ x => x))
  obtain ⟨k, hk', L⟩ := hk _ h₁.1
  refine wpN_bindA (L.here ?_)
  have tail : ∀ {t : Sem Value}, wpN M A t Q E s₁ → wpN M A (t >>= fun r => holding [r] point >>= fun _ => pure r) Q E s₁ :=
    fun ht => wpN_bind (wpN_mono ht (fun r s₂ hr => wpN_bindA (wpAny_holding (wpAny_point (wpN_pure hr)))) fun _ _ x => x)
  have marked (mk : Value) : wpN M A (callMarked mk f (first ++ a.pos) a.kw) Q E s₁ := by unfold callMarked; exact wpN_keep h₁.2
  have oper (vs : List Value) : wpN M A (operate vs (call f (first ++ a.pos) a.kw)) Q E s₁ := wpN_operate h₁.2
  cases hst : (args.any (·.1) || keywords.any (·.1.isNone)) <;> rcases hk' with rfl | rfl | rfl <;> dsimp only <;> first | exact tail h₁.2 | exact tail (marked _) | exact tail (oper _) | (split <;> first | exact tail h₁.2 | exact tail (marked _))
end
section
variable {prog : Program} {w : World} {A : Around} {E : Value → Shared → Prop} {s : Shared} {env : Env} {R : Result → Shared → Prop}
theorem codeN_func {body : List Stmt} (h : wpN (model prog w) (A.deeper env) (execs body env) (fun f s' => R (.ok (.ret (match f with | .ret v => v | _ => .none))) s') (fun _ _ => False) s) :
    codeN (model prog w) A (.func body env) R s := by
  refine codeN_of_tree ?_
  show wpN _ (A.deeper env) (do point; match ← (execs body env).onRaise (leaving env) with | .ret v => ret v | _ => ret .none) _ _ s
  refine wpN_bindA (wpAny_point (wpN_bind (wpN_onRaise0 (wpN_mono h (fun f s' h' => ?_) fun _ _ h' => h'))))
  cases f <;> exact wpN_pure h'
theorem codeN_call_function {a : Addr} {args : Args} {o : Obj} {fd : FuncData} {body : List Stmt} (hroom : A.depth < recursionLimit) (ho : s.heap.get? a = some o)
    (hd' : o.data = .func fd) (hco : fd.scope.isCoroutine = false) (hgen : fd.scope.isGenerator = false) (hbody : fd.body = .stmts body) (hcd : s.heap.CodeRec fd.code fd.qualname)
    (h : wpAny (model prog w) A.in1 (bindArgs fd args) (fun binds s₁ =>
      wpAny (model prog w) A.in1 (newFunctionEnv fd.scope fd.globals fd.closure binds (fd.qualname ++ ".<locals>.") (some a) fd.code none fd.builtins)
        (fun env s₂ => s₂.heap.NoLimit ∧ codeN (model prog w) A (.func body env) R s₂) (fun e s' => R (.error e) s') s₁) (fun e s' => R (.error e) s') s) :
    codeN (model prog w) A (.call (.ref a) args) R s := by
  refine codeN_of_tree ?_
  show wpN _ A.in1 (callAny (.ref a) args) _ _ s
  simp only [callAny]
  refine wpN_bindA (wpAny_load ho ?_)
  obtain ⟨c, oc, vs, tq, hc, hoc, hdc, hq⟩ := hcd
  simp only [hd', callFunction, hco, hgen, hbody, hc]
  rw [hc] at h
  refine wpN_bindA (m := field (.ref c) 1) (wpAny_field hoc hdc hq (wpN_bind (wpN_pure ?_)))
  exact wpN_bindA (wpAny_mono h (fun binds s₁ h₁ => wpN_bindA (wpAny_mono h₁ (fun env s₂ h₂ => wpN_bindA (wpAny_enterFrame h₂.1 hroom
    (wpN_pure (And.intro rfl (And.intro rfl h₂.2))))) fun _ _ h' => h')) fun _ _ h' => h')
/-- a While that does not turn -/
theorem N_While_off {test body pos} {Q : Flow → Shared → Prop} (h : wpN (model prog w) A (isTrue test env (eval test env)) (fun b s' => b = false ∧ Q .next s') (fun _ _ => False) s) :
    wpN (model prog w) A (exec (.While test body [] pos) env) Q E s := by
  rw [exec_While]
  refine wpN_bind (wpN_standAt ?_)
  unfold runOwn
  refine wpN_onRaise0 (wpN_run rfl (codeN_of_tree ?_))
  show wpN _ A ((whileTurn test body [] env).onRaise (fun x => do noteFrame x env; theTreesLotGoes x)) _ _ s
  refine wpN_onRaise0 ?_
  unfold whileTurn
  refine wpN_bind (wpN_mono h (fun b s' h' => ?_) fun _ _ x => x)
  obtain ⟨rfl, h'⟩ := h'
  exact wpN_bind (wpN_pure (wpN_pure h'))
theorem codeN_forTurn {target it body}
    (turn : wpAny (model prog w) A (pyNext it) (fun r s₁ => match r with
      | none => R (.ok .next) s₁
      | some v => wpAny (model prog w) A (assign target env v) (fun _ s₂ => wpN (model prog w) A (execs body env) (fun f s₃ => match f with
          | .next | .cont => codeN (model prog w) A (.forLoop target it body [] env) R s₃
          | .brk => R (.ok .next) s₃
          | .ret v => R (.ok (.ret v)) s₃) (fun _ _ => False) s₂) (fun _ _ => False) s₁) (fun _ _ => False) s)
    (ht : ∀ v, letOwnedTupleGo target it v = pure () := by intro _; rfl) : codeN (model prog w) A (.forLoop target it body [] env) R s := by
  refine codeN_of_tree ?_
  show wpN _ A ((forTurn target it body [] env).onRaise (fun x => do noteFrame x env; theTreesLotGoes x)) _ _ s
  refine wpN_onRaise0 ?_
  simp only [forTurn]
  refine wpN_bind (wpN_standAt (wpN_bindA (wpAny_onRaise (wpAny_mono turn (fun r s₁ h₁ => ?_) fun _ _ h' => h'.elim))))
  cases r with
  | none =>
    refine wpN_pure (And.intro rfl (And.intro rfl (codeN_any (codeAny_block (wpAny_execs_nil h₁)))))
  | some v =>
    refine wpN_bindA (wpAny_of_eq (ht v) ?_)
    refine wpN_bindA (wpAny_mono h₁ (fun _ s₂ h₂ => wpN_bind (wpN_mono h₂ (fun f s₃ h₃ => ?_) fun _ _ h' => h')) fun _ _ h' => h')
    cases f with
    | next => exact wpN_pure (And.intro rfl (And.intro rfl h₃))
    | cont => exact wpN_pure (And.intro rfl (And.intro rfl h₃))
    | brk => exact wpN_pure h₃
    | ret v => exact wpN_pure h₃
/-- a loop over a list: J holds ahead of each turn -/
theorem codeN_forL {target body} {I l : Addr} {items : Array Value} (hh : A.handled = none) (J : Nat → Shared → Prop)
    (turn : ∀ i s x, J i s → items[i]? = some x → s.heap.IsListIter I l i ∧ s.heap.IsList l items ∧ ∀ h', h'.IsListIter I l (i + 1) → Heap.SameBut I s.heap h' →
      wpAny (model prog w) A (assign target env x) (fun _ s₂ => wpN (model prog w) A (execs body env) (fun f s₃ => match f with
          | .next | .cont => J (i + 1) s₃
          | .brk => R (.ok .next) s₃
          | .ret v => R (.ok (.ret v)) s₃) (fun _ _ => False) s₂) (fun _ _ => False) { s with heap := h' })
    (fin : ∀ s, J items.size s → s.heap.IsListIter I l items.size ∧ s.heap.IsList l items ∧ ∀ h', Heap.ExtBut I s.heap h' → R (.ok .next) { s with heap := h' })
    (ht : ∀ v, letOwnedTupleGo target (.ref I) v = pure () := by intro _; rfl) : ∀ (k i : Nat) (s : Shared), items.size - i = k → i ≤ items.size → J i s → codeN (model prog w) A (.forLoop target (.ref I) body [] env) R s := by
  intro k
  induction k with
  | zero =>
    intro i s hk hi hJ
    have hi' : i = items.size := by omega
    subst hi'
    obtain ⟨h1, h2, h3⟩ := fin s hJ
    exact codeN_forTurn (wpAny_pyNext_list_end hh h1 h2 (by simp) fun h' e => h3 h' e) ht
  | succ k ih =>
    intro i s hk hi hJ
    have hlt : i < items.size := by omega
    have hx : items[i]? = some items[i] := Array.getElem?_eq_getElem hlt
    obtain ⟨h1, h2, h3⟩ := turn i s _ hJ hx
    refine codeN_forTurn (wpAny_pyNext_list_item h1 h2 hx fun h' e1 e2 => ?_) ht
    refine wpAny_mono (h3 h' e1 e2) (fun _ s₂ h₂ => wpN_mono h₂ (fun f s₃ h₃ => ?_) fun _ _ x => x) fun _ _ x => x
    cases f with
    | next => exact ih (i + 1) s₃ (by omega) hlt h₃
    | cont => exact ih (i + 1) s₃ (by omega) hlt h₃
    | brk => exact h₃
    | ret v => exact h₃
theorem N_For {target iter body pos} {Q : Flow → Shared → Prop}
    (h : wpAny (model prog w) A (eval iter env) (fun xv s₁ => wpAny (model prog w) A (pyIter xv) (fun it s₂ => codeN (model prog w) A (.forLoop target it body [] env) (fun r s' => match r with | .ok f => Q f s' | .error _ => False) s₂) (fun _ _ => False) s₁) (fun _ _ => False) s)
    (hs : ∀ x, foldedSetIterable iter env x = pure x := by intro _; rfl) : wpN (model prog w) A (exec (.For target iter body [] pos) env) Q E s := by
  rw [arm_exec_For]
  refine wpN_bind (wpN_standAt (wpN_bindA (wpAny_mono h (fun xv s₁ h₁ => ?_) fun _ _ x => x.elim)))
  rw [hs]
  refine wpN_bind (wpN_pure (wpN_bind (wpN_standAt (wpN_bindA (wpAny_holding (wpAny_mono h₁ (fun it s₂ h₂ => ?_) fun _ _ x => x.elim))))))
  unfold runOwn
  refine wpN_onRaise0 (wpN_run rfl (codeN_mono h₂ fun r s' z => ?_))
  cases r with
  | ok f => exact z
  | error e => exact z
end
section
variable {prog : Program} {w : World} {A A₀ : Around} {base h₀ : Heap} {s : Shared} {L : Addr} {m : Str → Option Value} {news : List (Addr × Obj)} {K : Frag} {p : Program} {loose : List Str} {mean : ExcName → Option Value} {mg mb : Str → Option Value}
/-- a def entered: the callee's frame, the ledger, what stays -/
theorem codeN_def {env : Env} {outer : List Env} {R : Result → Shared → Prop} {name qual : Str} {params : Arguments} {body : List Stmt} {scope : Scope} {dV kV doc pm cdv ct oc : Value} {an od : Option Addr} {osl : Array (Option Value)} {f : Addr} {args : Args} {binds : List (Str × Value)}
    (B : Below A₀ base outer h₀) (F : Fr h₀ L s.heap m) (X₀ : K.In h₀) (N : News h₀ L s.heap news) (T : Top p loose mean mg mb h₀) (hA : A.frames = some (env :: outer)) (hf : env.frame = some L) (hke : env.scope.kind = .function)
    (ho : K.lookup f = some ⟨oc, od, .func (fnOf name qual params body scope dV kV doc pm an cdv ct), osl⟩) (hcd : codeIn K cdv qual = true) (hroom : A.depth < recursionLimit)
    (hbind : BindsTo s (fnOf name qual params body scope dV kV doc pm an cdv ct) args binds) (hloc : ∀ y ∈ binds, scope.names.lookup y.1 = some .local)
    (h : ∀ g L' h₁, Fr h₀ L g m → Fr g L' h₁ (fun y => binds.reverse.lookup y) → News g L' h₁ news → Below A base (env :: outer) g → K.In g → Top p loose mean mg mb g → (∀ p ∈ news, p.1 < L') →
      wpN (model prog w) (A.deeper (envOf qual scope L' f cdv)) (execs body (envOf qual scope L' f cdv))
        (fun fl s' => LeaveK h₀ L m g R (match fl with | .ret v => v | _ => .none) s') (fun _ _ => False)
        { s with heap := h₁, toks := s.toks + binds.length })
    (hco : scope.isCoroutine = false) (hgen : scope.isGenerator = false) (hk : scope.kind = .function)
    (hcell : ∀ x ∈ scope.names, x.2 ≠ .cell) : codeN (model prog w) A (.call (.ref f) args) R s := by
  obtain ⟨FG, BG, st, lv⟩ := groundX (R := R) B F N hA hf hke
  have X := X₀.keeps F.keep
  refine codeN_call_function (fd := fnOf name qual params body scope dV kV doc pm an cdv ct) (body := body) hroom (X _ _ ho) rfl hco hgen rfl (codeRec_of X hcd) (hbind _ _ _ _ ?_)
  refine wpAny_newFunctionEnv hcell hloc (fun h₁ hns₁ hsb₁ => ⟨(T.nolimit.keeps F.keep).fresh _ hsb₁, codeN_func ?_⟩) hk
  have hk₁ : ∀ b o, s.heap.get? b = some o → h₁.get? b = some o := fun b o e => hsb₁.extBut b o (Nat.ne_of_lt (Heap.lt_size e)) (Heap.get?_push_of_some _ e)
  exact wpN_mono (h _ s.heap.objs.size h₁ FG ⟨hns₁, fun b o e => hk₁ b o (of_hideAll _ e), Nat.le_of_eq (hideAll_size _ _)⟩
    (fun p hp => ⟨hk₁ _ _ (N p hp).1, Nat.ne_of_lt (Heap.lt_size (N p hp).1), hideAll_none _ (List.mem_map_of_mem hp)⟩) BG (X₀.keeps st) (T.keeps st) (fun p hp => Heap.lt_size (N p hp).1)) (fun fl s' hl => lv _ _ hl) fun _ _ y => y
end
end
section
section
theorem ba_mro : mroOf (.type "bytearray") = pure [.type "bytearray", .type "object"] := by rw [mroOf_type]; kernel_rfl
theorem ba_lookup_new : typeLookup (.type "bytearray") "__new__" = pure (some (.builtin "bytearray.__new__")) := by rw [typeLookup_type, builtinLookup_eq_fast]; kernel_rfl
theorem ba_slot_init : Slot "bytearray" "__init__" "bytearray.__init__" :=
  .of (owner := "bytearray") (n := "__init__") (by rw [typeLookup_type, builtinLookup_eq_fast]; kernel_rfl) (by decide +kernel) (by decide +kernel) (by decide +kernel)
    (by first | exact .inl (by decide +kernel) | exact .inr (by decide +kernel)) (by rw [isSubtype_type]; kernel_rfl)
theorem ba_slot_setitem : Slot "bytearray" "__setitem__" "bytearray.__setitem__" :=
  .of (owner := "bytearray") (n := "__setitem__") (by rw [typeLookup_type, builtinLookup_eq_fast]; kernel_rfl) (by decide +kernel) (by decide +kernel) (by decide +kernel)
    (by first | exact .inl (by decide +kernel) | exact .inr (by decide +kernel)) (by rw [isSubtype_type]; kernel_rfl)
theorem ba_slot_len : Slot "bytearray" "__len__" "bytearray.__len__" :=
  .of (owner := "bytearray") (n := "__len__") (by rw [typeLookup_type, builtinLookup_eq_fast]; kernel_rfl) (by decide +kernel) (by decide +kernel) (by decide +kernel)
    (by first | exact .inl (by decide +kernel) | exact .inr (by decide +kernel)) (by rw [isSubtype_type]; kernel_rfl)
theorem ba_sub : isSubtype (.type "bytearray") (.type "bytearray") = pure true := by rw [isSubtype_type]; kernel_rfl
theorem ba_called : TypeCalled "bytearray" "bytearray.__new__" "bytearray.__init__" :=
  ⟨by decide +kernel, by decide +kernel, ⟨_, _, ba_mro⟩, madeBy_type ba_mro ba_lookup_new (by decide +kernel), by decide +kernel, ba_sub, ba_slot_init⟩
theorem ba_entry_new : entryFor table "bytearray.__new__" = some Builtin.«list.__new__» := entryFor_alias (id' := "list.__new__") (by kernel_rfl) rfl (by decide +kernel) (by kernel_rfl)
theorem ba_entry_init : entryFor table "bytearray.__init__" = some Builtin.«bytearray.__init__» := entryFor_of_tree (by kernel_rfl)
theorem ba_entry_setitem : entryFor table "bytearray.__setitem__" = some Builtin.«bytearray.__setitem__» := entryFor_of_tree (by kernel_rfl)
theorem ba_entry_len : entryFor table "bytearray.__len__" = some Builtin.«bytearray.__len__» := entryFor_of_tree (by kernel_rfl)
theorem ba_plain_new : plainId "bytearray.__new__" = true := by decide +kernel
theorem ba_plain_init : plainId "bytearray.__init__" = true := by decide +kernel
theorem ba_plain_setitem : plainId "bytearray.__setitem__" = true := by decide +kernel
theorem ba_newCall0 : checkBuiltinCall "bytearray.__new__" ⟨[.type "bytearray"], []⟩ = pure () := by kernel_rfl
theorem ba_newCall1 (a : Value) : checkBuiltinCall "bytearray.__new__" ⟨[.type "bytearray", a], []⟩ = pure () := by kernel_rfl
theorem ba_typeCall0 : checkTypeCall "bytearray" ⟨[], []⟩ = pure () := by kernel_rfl
theorem ba_typeCall1 (a : Value) : checkTypeCall "bytearray" ⟨[a], []⟩ = pure () := by kernel_rfl
set_option maxRecDepth 1000000 in
set_option maxHeartbeats 4000000 in
theorem ba_owner : ("bytearray.__new__".splitOn ".__new__").headD "" = "bytearray" := by simp +decide [String.splitOn, String.splitOnAux]
end
section
variable {prog : Program} {w : World} {A : Around} {E : Value → Shared → Prop} {s : Shared} {R : Result → Shared → Prop}
theorem code_ba_new {args : List Value} (hc : checkBuiltinCall "bytearray.__new__" ⟨.type "bytearray" :: args, []⟩ = pure ()) {Q₁ : Value → Shared → Prop}
    (h : Q₁ (.ref s.heap.objs.size) { s with heap := s.heap.push { cls := .type "bytearray", data := .bytearray #[] } }) :
    codeAny (model prog w) A (.call (.builtin "bytearray.__new__") ⟨.type "bytearray" :: args, []⟩) (wants Q₁ E) s := by
  refine codeAny_of_tree ?_
  show wpAny _ A.in1 (do checkBuiltinCall "bytearray.__new__" ⟨.type "bytearray" :: args, []⟩; again (.builtin "bytearray.__new__" ⟨.type "bytearray" :: args, []⟩)) _ _ s
  refine wpAny_bind (wpAny_of_eq hc (wpAny_pure ⟨plainId_quiet ba_plain_new _, codeAny_builtin_stack ba_entry_new rfl fun p st => ?_⟩))
  rw [Around.under_plainId ba_plain_new _]
  have hsub := ba_sub
  have hown := ba_owner
  obtain ⟨hp, g, d, tk, os⟩ := s
  simp only [hown]
  wp_walk
  exact h
theorem codeN_builtin {id : String} {args : Args} {b : Builtin} (hb : entryFor table id = some b)
    (h : wpN (model prog w) (A.under (.builtin id args)) (b args) (fun fin s' => match fin with | .done f => R (.ok f) s' | .again c' => c'.quiet = true ∧ isHold c' = false ∧ codeN (model prog w) A c' R s') (fun e s' => R (.error e) s') s) :
    codeN (model prog w) A (.builtin id args) R s := by
  refine codeN_of_tree ?_
  have hden : (model prog w).den (.builtin id args) = b args := by
    show (match entryFor table id with | some b => b args | none => unsupported ((withoutEnding? id "#data").getD id)) = _
    rw [hb]
  rw [hden]
  exact h
theorem codeN_call_builtin {id : String} {args : Args} {b : Builtin} (hp : plainId id = true) (hn : holdIds.contains id = false) (hb : entryFor table id = some b)
    (hc : wpAny (model prog w) A.in1 (checkBuiltinCall id args) (fun _ s₁ => wpN (model prog w) A.in1 (b args) (fun fin s' => match fin with | .done f => R (.ok f) s' | .again c' => c'.quiet = true ∧ isHold c' = false ∧ codeN (model prog w) A c' R s') (fun e s' => R (.error e) s') s₁) (fun e s' => R (.error e) s') s) :
    codeN (model prog w) A (.call (.builtin id) args) R s := by
  refine codeN_of_tree ?_
  show wpN _ A.in1 (do checkBuiltinCall id args; again (.builtin id args)) _ _ s
  refine wpN_bindA (wpAny_mono hc (fun _ s₁ h₁ => wpN_pure ⟨plainId_quiet hp _, hn, codeN_builtin hb ?_⟩) fun _ _ x => x)
  rw [Around.under_plainId hp _]
  exact h₁
theorem N_callSpecial_slot {M : Model} {self : Value} {T : String} {name : Str} {id : String} {args : List Value} {kw : List (Str × Value)} {Q : Option Value → Shared → Prop} (hT : s.TypeIs self T) (h : Slot T name id)
    (hc : wpN M A (call (.builtin id) (self :: args) kw) (fun v => Q (some v)) E s) : wpN M A (callSpecial? self name args kw) Q E s := by
  simp only [callSpecial?]
  refine wpN_bindA (wpAny_specialOf hT h.lookup ?_)
  simp only [h.bind]
  exact wpN_holding (wpN_bind (wpN_pure (wpN_bind (wpN_mono hc (fun v s' h' => wpN_pure h') fun _ _ h' => h'))))
theorem N_call_ba {args : List Value} {Q : Value → Shared → Prop} (hct : checkTypeCall "bytearray" ⟨args, []⟩ = pure ()) (hnc : checkBuiltinCall "bytearray.__new__" ⟨.type "bytearray" :: args, []⟩ = pure ())
    (hok : ∀ a, argsOk "bytearray.__init__" ⟨a :: args, []⟩)
    (hi : wpN (model prog w) A.in1.in1 (Builtin.«bytearray.__init__» ⟨.ref s.heap.objs.size :: args, []⟩)
        (fun fin s' => match fin with | .done f => f = .ret .none ∧ Q (.ref s.heap.objs.size) s' | .again _ => False) (fun _ _ => False) { s with heap := s.heap.push { cls := .type "bytearray", data := .bytearray #[] } }) :
    wpN (model prog w) A (call (.type "bytearray") args) Q E s := by
  obtain ⟨c, tl, hmro⟩ := ba_called.mro
  have hmade := ba_called.made
  have hsub := ba_called.sub
  refine wpN_call (codeN_of_tree ?_)
  show wpN _ _ (callAny (.type "bytearray") _) _ _ _
  refine wpN_pure ⟨Code.quiet_builtin _ (by decide +kernel), rfl, codeN_builtin F.entry_type_call ?_⟩
  rw [Around.under_plain (weight_type_call_type "bytearray" args []) rfl]
  have h1 := ba_called.notType
  have h2 := ba_called.canCreate
  unfold Builtin.«type.__call__»
  simp only [h1, h2, Bool.false_eq_true, if_false]
  refine wpN_bindA (wpAny_of_eq hct ?_)
  refine wpN_bindA (wpAny_of_eq hmro ?_)
  dsimp only [List.isEmpty]
  simp only [Bool.false_eq_true, if_false]
  refine wpN_bindA (wpAny_of_eq hmade ?_)
  dsimp only
  refine wpN_bind (wpN_pure ?_)
  refine wpN_bindA (wpAny_holding (wpAny_call (codeAny_mono (code_ba_new (Q₁ := fun v s' => v = .ref s.heap.objs.size ∧ s' = { s with heap := s.heap.push { cls := .type "bytearray", data := .bytearray #[] } }) (E := fun _ _ => False) hnc ⟨rfl, rfl⟩) fun r s₁ hr => ?_)))
  cases r with
  | error e => exact hr.elim
  | ok fl =>
    cases fl with
    | ret obj =>
      obtain ⟨rfl, rfl⟩ := hr
      have hT : ({ s with heap := s.heap.push { cls := .type "bytearray", data := .bytearray #[] } } : Shared).TypeIs (.ref s.heap.objs.size) "bytearray" := ⟨_, Heap.get?_push_size _ rfl, rfl⟩
      dsimp only
      refine wpN_bindA (wpAny_isInstance hT ba_sub ?_)
      simp only [Bool.not_true, Bool.false_eq_true, if_false]
      refine wpN_bind (wpN_holding (N_callSpecial_slot hT ba_slot_init (wpN_call (codeN_call_builtin ba_plain_init (by decide +kernel) ba_entry_init (ba_slot_init.check _ _ _ _ _ _ _ _ hT (hok _) ?_)))))
      refine wpN_mono hi (fun fin s' hf => ?_) fun _ _ x => x.elim
      cases fin with
      | done f =>
        obtain ⟨rfl, hq⟩ := hf
        dsimp only
        simp only [bne_self_eq_false, Bool.false_eq_true, if_false]
        exact wpN_pure hq
      | again c => exact hf.elim
    | _ => exact hr.elim
end
end
section
section
theorem ba_rel : typeLookup (.type "bytearray") "__release_buffer__" = pure (some (.builtin "bytearray.__release_buffer__")) := by rw [typeLookup_type, builtinLookup_eq_fast]; kernel_rfl
theorem by_rel : typeLookup (.type "bytes") "__release_buffer__" = pure none := by rw [typeLookup_type, builtinLookup_eq_fast]; kernel_rfl
theorem by_buf : typeLookup (.type "bytes") "__buffer__" = pure (some (.builtin "bytes.__buffer__")) := by rw [typeLookup_type, builtinLookup_eq_fast]; kernel_rfl
theorem by_noindex : typeLookup (.type "bytes") "__index__" = pure none := by rw [typeLookup_type, builtinLookup_eq_fast]; kernel_rfl
theorem by_sub : isSubtype (.type "bytes") (.type "bytes") = pure true := by rw [isSubtype_type]; kernel_rfl
theorem ba_bind0 : Builtin.Bytes.bindOptional "bytearray.__init__" "bytearray" ["source", "encoding", "errors"] [] [] = pure [none, none, none] := by kernel_rfl
theorem ba_bind1 (v : Value) : Builtin.Bytes.bindOptional "bytearray.__init__" "bytearray" ["source", "encoding", "errors"] [v] [] = pure [some v, none, none] := by kernel_rfl
end
/-- a bytearray's object -/
abbrev baObj (b : Array UInt8) : Obj := { cls := .type "bytearray", data := .bytearray b }
section
variable {prog : Program} {w : World} {A : Around} {E : Value → Shared → Prop} {s : Shared} {M : Model}
theorem own_rel_ba {a : Addr} {Q : Bool → Shared → Prop} (hT : s.TypeIs (.ref a) "bytearray") (h : Q false s) : wpAny M A (Builtin.Bytes.ownRelease (.ref a)) Q E s := by
  unfold Builtin.Bytes.ownRelease Builtin.Bytes.slotIsOwn
  refine wpAny_bind (wpAny_bind (wpAny_specialOf hT ba_rel ?_))
  dsimp only
  rw [if_neg (by decide +kernel)]
  have e : ("bytearray.__release_buffer__".dropRight ("__release_buffer__".length + 1)) = "bytearray" := by decide +kernel
  rw [e]
  exact wpAny_isInstance hT ba_sub (wpAny_pure h)
theorem own_rel_by {b : Array UInt8} {t : Tok} {Q : Bool → Shared → Prop} (h : Q false s) : wpAny M A (Builtin.Bytes.ownRelease (.bytes b t)) Q E s := by
  unfold Builtin.Bytes.ownRelease Builtin.Bytes.slotIsOwn
  exact wpAny_bind (wpAny_bind (wpAny_specialOf (typeIs_bytes s b t) by_rel (wpAny_pure (wpAny_pure h))))
theorem write_ba {a : Addr} {b : Array UInt8} {f : Array UInt8 → Array UInt8} {Q : Unit → Shared → Prop} (ho : s.heap.get? a = some (baObj b)) (hz : (f b).size ≤ sizeLine)
    (h : ∀ h', Heap.SameBut a s.heap h' → h'.get? a = some (baObj (f b)) → Q () { s with heap := h' }) : wpAny M A (Builtin.Bytes.write (.ref a) f) Q E s := by
  show wpAny _ _ (updateBytearray a f) _ _ s
  unfold updateBytearray
  refine wpAny_bind (wpAny_load ho ?_)
  show wpAny _ _ (update a (Obj.mapBytearray f) >>= fun _ => lookBehind a) _ _ _
  refine wpAny_bind (wpAny_update ho ?_)
  have h2 : (s.heap.update a (Obj.mapBytearray f)).get? a = some (baObj (f b)) := Heap.get?_update_self (Obj.mapBytearray f) ho rfl
  refine wpAny_lookBehind h2 ?_ (h _ (Heap.SameBut.update ..) h2)
  show (if (f b).size > sizeLine then some "bytearray:memory" else none) = none
  rw [if_neg (by omega)]
theorem payload_ba {a : Addr} {b : Array UInt8} {Q : Array UInt8 → Shared → Prop} (ho : s.heap.get? a = some (baObj b)) (h : Q b s) : wpAny M A (Builtin.Bytes.payload (.ref a)) Q E s := by
  unfold Builtin.Bytes.payload Builtin.Bytes.payload?
  exact wpAny_bind (wpAny_bind (wpAny_load ho (wpAny_pure (wpAny_pure h))))
theorem exports_ba {a : Addr} {b : Array UInt8} {Q : Nat → Shared → Prop} (ho : s.heap.get? a = some (baObj b)) (h : Q 0 s) : wpAny M A (Builtin.Bytes.exportsOf (.ref a)) Q E s := by
  unfold Builtin.Bytes.exportsOf
  exact wpAny_bind (wpAny_load ho (wpAny_pure h))
theorem buf_by {b : Array UInt8} {t : Tok} {i : String} {fl : Bool} {Q : Option (Array UInt8) → Shared → Prop} (h : Q (some b) s) : wpAny M A (Builtin.Bytes.buffer? i (.bytes b t) fl) Q E s := by
  unfold Builtin.Bytes.buffer?
  refine wpAny_bind (wpAny_specialOf (typeIs_bytes s b t) by_buf ?_)
  dsimp only
  have own : ∀ {Q' : Bool → Shared → Prop}, Q' true s → wpAny M A (Builtin.Bytes.slotIsOwn (.bytes b t) "__buffer__") Q' E s := fun h' => by
    unfold Builtin.Bytes.slotIsOwn
    refine wpAny_bind (wpAny_specialOf (typeIs_bytes s b t) by_buf ?_)
    dsimp only
    rw [if_neg (by decide +kernel)]
    have e : ("bytes.__buffer__".dropRight ("__buffer__".length + 1)) = "bytes" := by decide +kernel
    rw [e]
    exact wpAny_isInstance (typeIs_bytes s b t) by_sub h'
  refine wpAny_bind (own ?_)
  simp only [Bool.not_true, Bool.false_eq_true, if_false]
  refine wpAny_bind (wpAny_specialOf (typeIs_bytes s b t) by_buf ?_)
  refine wpAny_bind (own_rel_by ?_)
  simp only [Bool.false_eq_true, if_false]
  unfold Builtin.Bytes.payload Builtin.Bytes.payload?
  exact wpAny_bind (wpAny_bind (wpAny_pure (wpAny_pure (wpAny_pure h))))
theorem N_ba_init0 {a : Addr} {Q : Fin → Shared → Prop} (ho : s.heap.get? a = some (baObj #[]))
    (h : ∀ h', Heap.SameBut a s.heap h' → h'.get? a = some (baObj #[]) → Q (.done (.ret .none)) { s with heap := h' }) :
    wpN M A (Builtin.«bytearray.__init__» ⟨[.ref a], []⟩) Q E s := by
  have hT : s.TypeIs (.ref a) "bytearray" := ⟨_, ho, rfl⟩
  unfold Builtin.«bytearray.__init__»
  dsimp only
  refine wpN_bindA (own_rel_ba hT ?_)
  simp only [Bool.false_eq_true, if_false]
  rw [ba_bind0]
  refine wpN_bind (wpN_pure ?_)
  dsimp only
  refine wpN_bindA (wpAny_of_eq (rfl : Builtin.Bytes.checkCodecArg _ _ _ none = pure ()) ?_)
  refine wpN_bindA (wpAny_of_eq (rfl : Builtin.Bytes.checkCodecArg _ _ _ none = pure ()) ?_)
  refine wpN_bind ?_
  unfold orM
  refine wpN_bind (wpN_exported ?_)
  dsimp only [toBool]
  refine wpN_bindA (exports_ba ho (wpN_pure ?_))
  rw [if_neg (by decide)]
  refine wpN_bindA (write_ba ho (Nat.zero_le _) fun h' e1 e2 => ?_)
  simp only [Option.isSome, Bool.false_eq_true, if_false]
  exact wpN_pure (h h' e1 e2)
theorem N_ba_init1 {a : Addr} {b : Array UInt8} {t : Tok} {Q : Fin → Shared → Prop} (ho : s.heap.get? a = some (baObj #[])) (hz : b.size ≤ sizeLine)
    (h : ∀ h', Heap.SameBut a s.heap h' → h'.get? a = some (baObj b) → Q (.done (.ret .none)) { s with heap := h' }) :
    wpN M A (Builtin.«bytearray.__init__» ⟨[.ref a, .bytes b t], []⟩) Q E s := by
  have hT : s.TypeIs (.ref a) "bytearray" := ⟨_, ho, rfl⟩
  unfold Builtin.«bytearray.__init__»
  dsimp only
  refine wpN_bindA (own_rel_ba hT ?_)
  simp only [Bool.false_eq_true, if_false]
  rw [ba_bind1]
  refine wpN_bind (wpN_pure ?_)
  dsimp only
  refine wpN_bindA (wpAny_of_eq (rfl : Builtin.Bytes.checkCodecArg _ _ _ none = pure ()) ?_)
  refine wpN_bindA (wpAny_of_eq (rfl : Builtin.Bytes.checkCodecArg _ _ _ none = pure ()) ?_)
  refine wpN_bind ?_
  unfold orM
  refine wpN_bind (wpN_exported ?_)
  dsimp only [toBool]
  refine wpN_bindA (exports_ba ho (wpN_pure ?_))
  rw [if_neg (by decide)]
  refine wpN_bindA (write_ba ho (Nat.zero_le _) fun h' e1 e2 => ?_)
  refine wpN_bindA (wpAny_of_eq (rfl : asStr? (.bytes b t) = pure none) ?_)
  simp only [Option.isSome, Bool.false_eq_true, if_false]
  refine wpN_bind (wpN_pure ?_)
  refine wpN_bindA (wpAny_specialOf (typeIs_bytes _ b t) by_noindex ?_)
  simp only [Option.isSome, Bool.false_eq_true, if_false]
  refine wpN_bindA (buf_by ?_)
  dsimp only
  refine wpN_bindA (wpAny_rule (wpN_bindA (write_ba e2 hz fun h2 e3 e4 => ?_)))
  exact wpN_pure (h h2 (e1.trans e3) e4)
end
end
section
section
theorem ba_args0 (a : Value) : argsOk "bytearray.__init__" ⟨[a], []⟩ := by unfold argsOk; kernel_rfl
theorem ba_args1 (a b : Value) : argsOk "bytearray.__init__" ⟨[a, b], []⟩ := by unfold argsOk; kernel_rfl
theorem ba_args_set (a b c : Value) : argsOk "bytearray.__setitem__" ⟨[a, b, c], []⟩ := by unfold argsOk; kernel_rfl
theorem sl_noindex : typeLookup (.type "slice") "__index__" = pure none := by rw [typeLookup_type, builtinLookup_eq_fast]; kernel_rfl
theorem by_noint : typeLookup (.type "bytes") "__int__" = pure none := by rw [typeLookup_type, builtinLookup_eq_fast]; kernel_rfl
theorem by_nofloat : typeLookup (.type "bytes") "__float__" = pure none := by rw [typeLookup_type, builtinLookup_eq_fast]; kernel_rfl
theorem by_notcomplex : isSubtype (.type "bytes") (.type "complex") = pure false := by rw [isSubtype_type]; kernel_rfl
theorem by_notba : isSubtype (.type "bytes") (.type "bytearray") = pure false := by rw [isSubtype_type]; kernel_rfl
end
section
variable {prog : Program} {w : World} {A : Around} {E : Value → Shared → Prop} {s : Shared} {h₀ : Heap} {L : Addr} {m : Str → Option Value} {news : List (Addr × Obj)}
theorem N_bytearray0 {Q : Value → Shared → Prop} (F : Fr h₀ L s.heap m) (N : News h₀ L s.heap news)
    (k : ∀ h', Fr h₀ L h' m → News h₀ L h' ((s.heap.objs.size, baObj #[]) :: news) → (∀ p ∈ news, p.1 < s.heap.objs.size) → Q (.ref s.heap.objs.size) { s with heap := h' }) :
    wpN (model prog w) A (call (.type "bytearray") []) Q E s := by
  refine N_call_ba ba_typeCall0 ba_newCall0 (fun a => ba_args0 _) (N_ba_init0 (Heap.get?_push_size _ rfl) fun h' hs ho => ⟨rfl, ?_⟩)
  have N1 := News.push F N (baObj #[])
  exact k h' ((F.push _).change hs (N1 _ (.head _)).2.1 (N1.fresh (.head _))) (N1.setHead N.apart hs ho) fun p hp => Heap.lt_size (N p hp).1
theorem N_bytearray1 {b : Array UInt8} {t : Tok} {Q : Value → Shared → Prop} (F : Fr h₀ L s.heap m) (N : News h₀ L s.heap news) (hz : b.size ≤ sizeLine)
    (k : ∀ h', Fr h₀ L h' m → News h₀ L h' ((s.heap.objs.size, baObj b) :: news) → (∀ p ∈ news, p.1 < s.heap.objs.size) → Q (.ref s.heap.objs.size) { s with heap := h' }) :
    wpN (model prog w) A (call (.type "bytearray") [.bytes b t]) Q E s := by
  refine N_call_ba (ba_typeCall1 _) (ba_newCall1 _) (fun a => ba_args1 _ _) (N_ba_init1 (Heap.get?_push_size _ rfl) hz fun h' hs ho => ⟨rfl, ?_⟩)
  have N1 := News.push F N (baObj #[])
  exact k h' ((F.push _).change hs (N1 _ (.head _)).2.1 (N1.fresh (.head _))) (N1.setHead N.apart hs ho) fun p hp => Heap.lt_size (N p hp).1
theorem parts_0n {M : Model} {sl : Addr} {n : Int} {u0 u1 : Tok} {Q : Value × Value × Value → Shared → Prop} (hs : s.heap.IsSliceOf sl (.int 0 u0) (.int n u1) .none) (h : Q (rawInt 0, rawInt n, .none) s) :
    wpAny M A (Builtin.Bytes.sliceParts (.ref sl)) Q E s := by
  obtain ⟨o, ho, hc, hd⟩ := hs
  unfold Builtin.Bytes.sliceParts
  refine wpAny_bind (wpAny_field (x := .none) ho hd rfl ?_)
  refine wpAny_bind (wpAny_of_eq (a := Value.none) rfl ?_)
  refine wpAny_ite ?_
  rw [if_neg (show ¬ ((Value.none == rawInt 0) = true) from Bool.false_ne_true)]
  refine wpAny_bind (wpAny_field (x := .int 0 u0) ho hd rfl ?_)
  have one : ∀ (i : Int) (u : Tok) {Q' : Value → Shared → Prop}, Q' (rawInt i) s → wpAny M A (if (Value.int i u == Value.none) = true then return .none else do
      if (← specialOf (.int i u) "__index__").isNone then
        rule "bytes.slice.part-no-index"; raiseError "TypeError" "slice indices must be integers or None or have an __index__ method"
      return rawInt (← asIndex (.int i u))) Q' E s := fun i u Q' h' => by
    rw [if_neg (show ¬ ((Value.int i u == Value.none) = true) from Bool.false_ne_true)]
    refine wpAny_bind (wpAny_specialOf (T := "int") (typeIs_int _ _ _) F.slot_int_index.lookup ?_)
    simp only [Option.isNone, Bool.false_eq_true, if_false]
    exact wpAny_bind (wpAny_of_eq (rfl : asIndex (.int i u) = pure i) (wpAny_pure h'))
  refine wpAny_bind (one 0 u0 ?_)
  refine wpAny_bind (wpAny_field (x := .int n u1) ho hd rfl ?_)
  exact wpAny_bind (one n u1 (wpAny_pure h))
theorem indices_0n {M : Model} {n : Int} (hn : 0 ≤ n) {Q : Int × Int × Int → Shared → Prop} (h : Q (0, 0, 1) s) : wpAny M A (sliceIndices (rawInt 0) (rawInt n) .none 0) Q E s := by
  have e := sliceIndices_raw (some 0) (some n) none 0 (by intro h; cases h)
  have e2 : sliceBounds (some 0) (some n) none 0 = (0, 0, 1) := by
    have h0 : ¬ (n < 0) := by omega
    have h1 : max (0 : Int) (min n ((0 : Nat) : Int)) = 0 := by omega
    simp [sliceBounds, h0]
    omega
  rw [e2] at e
  exact wpAny_of_eq e h
theorem wpAny_orF {M : Model} {x y : Sem Bool} {Q : Bool → Shared → Prop} (h : wpAny M A x (fun b s' => b = false ∧ wpAny M A y Q E s') E s) : wpAny M A (x <||> y) Q E s := by
  unfold orM
  refine wpAny_bind (wpAny_mono h (fun b s' h' => ?_) fun _ _ x => x)
  obtain ⟨rfl, h'⟩ := h'
  exact h'
/-- a slice's object -/
abbrev slObj (l u : Value) : Obj := { cls := .type "slice", data := .fields #[l, u, .none] }
theorem N_setslice {ba sl : Addr} {b : Array UInt8} {t : Tok} {n : Int} {u0 u1 : Tok} (hn : 0 ≤ n) {g : Obj → List (Addr × Obj)} {Q : Unit → Shared → Prop} (F : Fr h₀ L s.heap m) (N : News h₀ L s.heap news)
    (U : UpdF ba (baObj #[]) news g) (hsl : (sl, slObj (.int 0 u0) (.int n u1)) ∈ news) (hz : b.size ≤ sizeLine)
    (k : ∀ h', Fr h₀ L h' m → News h₀ L h' (g (baObj b)) → Q () { s with heap := h' }) :
    wpN (model prog w) A (setItem (.ref ba) (.ref sl) (.bytes b t)) Q E s := by
  obtain ⟨pre, post, e1, e2, e3, e4⟩ := U.split
  subst e1
  have hs : s.heap.IsSliceOf sl (.int 0 u0) (.int n u1) .none := ⟨_, (N _ hsl).1, rfl, rfl⟩
  have hba : s.heap.get? ba = some (baObj #[]) := (N _ (List.mem_append_right _ (List.Mem.head _))).1
  have hT : s.TypeIs (.ref ba) "bytearray" := ⟨_, hba, rfl⟩
  have hS : s.TypeIs (.ref sl) "slice" := let ⟨o, ho, hc, _⟩ := hs; ⟨o, ho, hc⟩
  unfold setItem
  refine wpN_holding ?_
  have key : ∀ {Q' : Value → Shared → Prop}, Q' (.ref sl) s → wpAny (model prog w) A (sequenceKey (.ref ba) (.ref sl) "__setitem__") Q' E s := fun h' => by
    unfold sequenceKey
    refine wpAny_bind (wpAny_typeOf hT ?_)
    dsimp only
    rw [if_pos (by decide)]
    exact wpAny_pure h'
  refine wpN_bindA (key ?_)
  refine wpN_bind (N_callSpecial_slot hT ba_slot_setitem (wpN_call (codeN_call_builtin ba_plain_setitem (by decide +kernel) ba_entry_setitem (ba_slot_setitem.check _ _ _ _ _ _ _ _ hT (ba_args_set _ _ _) ?_))))
  unfold Builtin.«bytearray.__setitem__»
  dsimp only [List.isEmpty]
  simp only [Bool.not_true, Bool.false_eq_true, if_false]
  unfold Builtin.Bytes.subscript?
  refine wpN_bindA (wpAny_bind (wpAny_specialOf hS sl_noindex (wpAny_pure ?_)))
  dsimp only
  refine wpN_bindA (wpAny_typeOf hS ?_)
  simp only [bne_self_eq_false, Bool.false_eq_true, if_false]
  refine wpN_bindA (parts_0n hs ?_)
  dsimp only
  rw [if_neg (show ¬ (Builtin.Bytes.sameRef (.ref ba) (.bytes b t) = true) from Bool.false_ne_true)]
  refine wpN_bindA (wpAny_isInstance (typeIs_bytes s b t) by_notba ?_)
  simp only [Bool.not_false, if_true]
  have no : ∀ (nm : String) {Q' : Bool → Shared → Prop}, typeLookup (.type "bytes") (nm : Str) = pure none → Q' false s → wpAny (model prog w) A.in1 (do return (← specialOf (.bytes b t) (nm : Str)).isSome) Q' E s := fun nm Q' hl h' =>
    wpAny_bind (wpAny_specialOf (typeIs_bytes s b t) hl (wpAny_pure h'))
  refine wpN_bindA (wpAny_orF (no "__index__" by_noindex ⟨rfl, wpAny_orF (no "__int__" by_noint ⟨rfl, wpAny_orF (no "__float__" by_nofloat ⟨rfl, wpAny_isInstance (typeIs_bytes s b t) by_notcomplex ?_⟩)⟩)⟩))
  refine wpN_bindA (wpAny_of_eq (rfl : asStr? (.bytes b t) = pure none) ?_)
  simp only [Option.isSome, Bool.or_false, Bool.false_eq_true, if_false]
  refine wpN_bindA (wpAny_rule (wpN_bind (N_bytearray1 F N hz fun h1 F1 N1 l1 => ?_)))
  have hs1 : h1.IsSliceOf sl (.int 0 u0) (.int n u1) .none := ⟨_, (N1 _ (List.Mem.tail _ hsl)).1, rfl, rfl⟩
  refine wpN_bindA (wpAny_holding (parts_0n hs1 ?_))
  refine wpN_bindA (payload_ba (N1 _ (List.Mem.head _)).1 ?_)
  refine wpN_bindA (payload_ba (N1 _ (List.Mem.tail _ (List.mem_append_right _ (List.Mem.head _)))).1 ?_)
  dsimp only
  refine wpN_bindA (indices_0n hn ?_)
  rw [if_pos (by decide)]
  refine wpN_bindA (wpAny_rule ?_)
  have hne : ba ≠ s.heap.objs.size := Nat.ne_of_lt (Heap.lt_size hba)
  have hb1 : h1.get? ba = some (baObj #[]) := (N1 _ (List.Mem.tail _ (List.mem_append_right _ (List.Mem.head _)))).1
  have eb : (#[] : Array UInt8).extract 0 (0 : Int).toNat ++ b ++ (#[] : Array UInt8).extract (max (0 : Int) 0).toNat (#[] : Array UInt8).size = b := by simp
  have fin : ∀ {Qf : PySem.Fin → Shared → Prop} {Ef : Value → Shared → Prop}, (∀ h2, Heap.SameBut ba h1 h2 → h2.get? ba = some (baObj b) → Qf (.done (.ret .none)) { s with heap := h2 }) →
      wpN (model prog w) A.in1 (do Builtin.Bytes.write (.ref ba) (fun b0 => b0.extract 0 (0 : Int).toNat ++ b ++ b0.extract (max (0 : Int) 0).toNat b0.size); ret .none) Qf Ef { s with heap := h1 } := fun h' =>
    wpN_bindA (write_ba (s := { s with heap := h1 }) (f := fun b0 => b0.extract 0 (0 : Int).toNat ++ b ++ b0.extract (max (0 : Int) 0).toNat b0.size) hb1 (by rw [eb]; exact hz) fun h2 q1 q2 => wpN_pure (h' h2 q1 (by rw [eb] at q2; exact q2)))
  have goal : ∀ h2, Heap.SameBut ba h1 h2 → h2.get? ba = some (baObj b) → Q () { s with heap := h2 } := fun h2 q1 q2 => by
    refine k h2 (F1.change q1 (N1 _ (List.Mem.tail _ (List.mem_append_right _ (List.Mem.head _)))).2.1 (N1.fresh (List.Mem.tail _ (List.mem_append_right _ (List.Mem.head _))))) ?_
    rw [e2]
    intro p hp
    have other : ∀ p, p ∈ (s.heap.objs.size, baObj b) :: (pre ++ (ba, baObj #[]) :: post) → p.1 ≠ ba → h2.get? p.1 = some p.2 ∧ p.1 ≠ L ∧ h₀.get? p.1 = none := fun p hp hn =>
      ⟨q1.extBut _ _ hn (N1 _ hp).1, (N1 _ hp).2⟩
    rcases List.mem_append.mp hp with hp | hp
    · exact other p (List.Mem.tail _ (List.mem_append_left _ hp)) (e3 p hp)
    · rcases List.mem_cons.mp hp with rfl | hp
      · exact ⟨q2, (N1 (ba, baObj #[]) (List.Mem.tail _ (List.mem_append_right _ (List.Mem.head _)))).2⟩
      · exact other p (List.Mem.tail _ (List.mem_append_right _ (List.Mem.tail _ hp))) (e4 p hp)
  split
  · refine wpN_bind ?_
    unfold Builtin.Bytes.checkResize
    refine wpN_bind ?_
    unfold orM
    refine wpN_bind (wpN_exported ?_)
    refine wpN_bindA (exports_ba hb1 (wpN_pure ?_))
    rw [if_neg (by decide)]
    refine wpN_pure (fin fun h2 q1 q2 => ?_)
    exact wpN_pure (goal h2 q1 q2)
  · refine fin fun h2 q1 q2 => ?_
    exact wpN_pure (goal h2 q1 q2)
end
end
section
section
variable {M : Model} {A : Around} {E : Value → Shared → Prop} {s : Shared} {env : Env}
theorem N_Assign_Attribute {o attr pos' value pos} {Q : Flow → Shared → Prop}
    (h : wpN M A (eval value env) (fun v s₁ => wpAny M A (eval o env) (fun ov s₂ => wpAny M A (setAttr ov attr v) (fun _ => Q .next) E s₂) E s₁) E s)
    (hs : swapsWith value (some (.Attribute o attr pos')) pos.line env = pure false := by rfl) :
    wpN M A (exec (.Assign [.Attribute o attr pos'] value pos) env) Q E s := by
  rw [plainObj_exec_Assign_Attribute o attr pos' value pos hs]
  refine wpN_bind (wpN_standAt (wpN_bind (wpN_mono h (fun v s₁ h₁ => ?_) fun _ _ x => x)))
  rw [assign_Attribute]
  exact wpN_bind (wpN_bindA (wpAny_holding (wpAny_mono h₁ (fun ov s₂ h₂ => wpN_bind (wpN_standAt (wpN_bindA (wpAny_holding (wpAny_mono h₂ (fun _ s₃ h₃ => wpN_rel (wpN_pure h₃)) fun _ _ x => x))))) fun _ _ x => x)))
theorem N_CallName {x : Str} {p pos : Pos} {args : List Expr} {kws : List Keyword} {Q : Value → Shared → Prop}
    (h : wpAny M A (eval (.Name x p) env) (fun f s₁ => wpN M A (callWith pos f [] (backTo pos (starEach args env)) (backToKw pos (keywordEach kws env))) Q E s₁) E s) :
    wpN M A (eval (.Call (.Name x p) args kws pos) env) Q E s := by
  show wpN M A (do callWith pos (← eval (.Name x p) env) [] (backTo pos (starEach args env)) (backToKw pos (keywordEach kws env))) Q E s
  exact wpN_bindA h
theorem keeps_type {n : String} : ∀ h, (fun _ : Heap => True) h → ∃ k, (k = Keeper.frame ∨ k = Keeper.machine ∨ k = Keeper.boundFrame) ∧ Looks M h (keeperOf (.type n)) k := fun _ _ => ⟨_, .inr (.inl rfl), Looks.of_pure rfl⟩
/-- no argument, a type -/
theorem N_callType0 {n : String} {pos : Pos} {Q : Value → Shared → Prop} (h : wpN M A (call (.type n) []) Q E s) : wpN M A (callWith pos (.type n) [] (backTo pos (starEach [] env)) (backToKw pos (keywordEach [] env))) Q E s :=
  N_callWith (keeps_type (n := n)) (evalArgs_nil3 ⟨trivial, h⟩)
theorem N_isTrue_if {test : Expr} {whole : Sem Value} {Q : Bool → Shared → Prop} (h : wpAny M A (isTrue test env whole) Q E s) : wpN M A (isTrue test env whole) Q E s := wpN_any h
end
end
section
section
theorem ba_args_len (a : Value) : argsOk "bytearray.__len__" ⟨[a], []⟩ := by unfold argsOk; kernel_rfl
variable {prog : Program} {w : World} {A : Around} {E : Value → Shared → Prop} {s : Shared}
theorem len_ba {a : Addr} {b : Array UInt8} {Q : Value → Shared → Prop} (ho : s.heap.get? a = some (baObj b)) (hz : b.size ≤ 1000000) (h : Q (.int b.size (s.toks + 1)) { s with toks := s.toks + 1 + 1 }) :
    wpAny (model prog w) A (call (.builtin "len") [.ref a]) Q E s := by
  have hT : s.TypeIs (.ref a) "bytearray" := ⟨_, ho, rfl⟩
  refine call_len_slot hT ba_slot_len (fun Q' h' => ?_) (by omega) (by omega) h
  refine wpAny_call_entry ba_slot_len hT ba_entry_len ?_ (ba_args_len _)
  unfold Builtin.«bytearray.__len__»
  refine wpAny_bind (wpAny_of_eq (a := (Value.ref a, ([] : List Value))) rfl ?_)
  dsimp only
  exact wpAny_bind (payload_ba ho (wpAny_ret_mkInt h'))
end
end
section
section
theorem ba_nobytes : typeLookup (.type "bytearray") "__bytes__" = pure none := by rw [typeLookup_type, builtinLookup_eq_fast]; kernel_rfl
theorem ba_noindex : typeLookup (.type "bytearray") "__index__" = pure none := by rw [typeLookup_type, builtinLookup_eq_fast]; kernel_rfl
theorem ba_buf : typeLookup (.type "bytearray") "__buffer__" = pure (some (.builtin "bytearray.__buffer__")) := by rw [typeLookup_type, builtinLookup_eq_fast]; kernel_rfl
variable {prog : Program} {w : World} {A : Around} {E : Value → Shared → Prop} {s : Shared} {M : Model}
theorem buf_ba {a : Addr} {b : Array UInt8} {i : String} {fl : Bool} {Q : Option (Array UInt8) → Shared → Prop} (ho : s.heap.get? a = some (baObj b)) (h : Q (some b) s) : wpAny M A (Builtin.Bytes.buffer? i (.ref a) fl) Q E s := by
  have hT : s.TypeIs (.ref a) "bytearray" := ⟨_, ho, rfl⟩
  unfold Builtin.Bytes.buffer?
  refine wpAny_bind (wpAny_specialOf hT ba_buf ?_)
  dsimp only
  have own : ∀ {Q' : Bool → Shared → Prop}, Q' true s → wpAny M A (Builtin.Bytes.slotIsOwn (.ref a) "__buffer__") Q' E s := fun h' => by
    unfold Builtin.Bytes.slotIsOwn
    refine wpAny_bind (wpAny_specialOf hT ba_buf ?_)
    dsimp only
    rw [if_neg (by decide +kernel)]
    have e : ("bytearray.__buffer__".dropRight ("__buffer__".length + 1)) = "bytearray" := by decide +kernel
    rw [e]
    exact wpAny_isInstance hT ba_sub h'
  refine wpAny_bind (own ?_)
  simp only [Bool.not_true, Bool.false_eq_true, if_false]
  refine wpAny_bind (wpAny_specialOf hT ba_buf ?_)
  refine wpAny_bind (own_rel_ba hT ?_)
  simp only [Bool.false_eq_true, if_false]
  exact wpAny_bind (payload_ba ho (wpAny_pure h))
theorem new_bytes_ba {l : Addr} {b : Array UInt8} {Q : Value → Shared → Prop} (ho : s.heap.get? l = some (baObj b)) (hz : b.size ≤ sizeLine)
    (hQ : ∀ t k, Q (.bytes b t) { s with toks := k }) :
    codeAny (model prog w) A (.call (.builtin "bytes.__new__") ⟨[.type "bytes", .ref l], []⟩) (wants Q E) s := by
  refine codeAny_of_tree ?_
  show wpAny _ A.in1 (do checkBuiltinCall "bytes.__new__" ⟨[.type "bytes", .ref l], []⟩; again (.builtin "bytes.__new__" ⟨[.type "bytes", .ref l], []⟩)) _ _ s
  refine wpAny_bind (wpAny_of_eq (F.bm_newCall _) (wpAny_pure ⟨plainId_quiet F.bm_plain _, codeAny_builtin F.bm_entry ?_⟩))
  rw [Around.under_plainId F.bm_plain _]
  have hT : s.TypeIs (.ref l) "bytearray" := ⟨_, ho, rfl⟩
  unfold Builtin.«bytes.__new__»
  refine wpAny_bind (wpAny_of_eq (a := true) rfl ?_)
  refine bm_if_false rfl ?_
  refine wpAny_bind (wpAny_of_eq F.bm_sub ?_)
  refine bm_if_false rfl ?_
  refine wpAny_bind (wpAny_of_eq (F.bm_bind _) ?_)
  refine wpAny_bind (wpAny_of_eq (a := ()) rfl ?_)
  refine wpAny_bind (wpAny_of_eq (a := ()) rfl ?_)
  refine bm_if_false rfl ?_
  refine wpAny_bind (wpAny_specialOf hT ba_nobytes ?_)
  refine wpAny_bind (wpAny_bind ?_)
  show wpAny _ _ (load l >>= _) _ _ _
  refine wpAny_bind (wpAny_load ho ?_)
  refine wpAny_pure (wpAny_pure ?_)
  refine bm_if_false rfl ?_
  refine wpAny_bind (wpAny_specialOf hT ba_noindex ?_)
  refine bm_if_true rfl ?_
  first
    | show wpAny _ _ (Builtin.Bytes.buffer? "bytes.__new__" (.ref l) true >>= _) _ _ _
    | (refine wpAny_bind ?_; show wpAny _ _ (Builtin.Bytes.buffer? "bytes.__new__" (.ref l) true >>= _) _ _ _)
  refine wpAny_bind (buf_ba ho ?_)
  refine wpAny_bind (wpAny_rule (wpAny_bind (wpAny_mkBytes ?_ hz)))
  show wpAny _ _ (if (Value.type "bytes" == Value.type "bytes") = true then _ else _) _ _ _
  refine bm_if_true (by decide) ?_
  first
    | exact wpAny_pure (hQ _ _)
    | exact wpAny_bind (wpAny_pure (wpAny_pure (hQ _ _)))
    | exact wpAny_pure (wpAny_pure (hQ _ _))
theorem call_bytes_ba {l : Addr} {b : Array UInt8} {Q : Value → Shared → Prop} (ho : s.heap.get? l = some (baObj b)) (hz : b.size ≤ sizeLine) (hQ : ∀ t k, Q (.bytes b t) { s with toks := k }) :
    wpAny (model prog w) A (call (.type "bytes") [.ref l]) Q E s := by
  refine callType_codes (Q₁ := fun obj s₁ => s₁.TypeIs obj "bytes" ∧ Q obj s₁) F.bm_called (F.bm_typeCall _) F.entry_object_init
    (new_bytes_ba ho hz fun t k => ⟨PySem.W.typeIs_bytes _ _ _, hQ t k⟩) fun obj s₁ h₁ => ?_
  exact ⟨h₁.1, F.args_object_init_2 obj _, object_init_meets F.bm_called.init.lookup F.bm_called.made (by decide) prog w A.in1 _ s₁ ⟨h₁.1, rfl, h₁.2⟩⟩
end
end
section
section
variable {prog : Program} {w : World} {A A₀ : Around} {base h₀ : Heap} {s : Shared} {L : Addr} {m : Str → Option Value} {news : List (Addr × Obj)} {K : Frag} {p : Program} {loose : List Str} {mean : ExcName → Option Value} {mg mb : Str → Option Value}
/-- a def with *args and **kwargs entered, nothing given beyond its own parameters -/
theorem codeN_defB {env : Env} {outer : List Env} {R : Result → Shared → Prop} {name qual : Str} {params : Arguments} {body : List Stmt} {scope : Scope} {dV kV doc pm cdv ct oc : Value} {an od : Option Addr} {osl : Array (Option Value)} {f : Addr} {args : Args} {binds : Addr → Addr → List (Str × Value)}
    {g₁ : Addr → Sem (List (Str × Value))} {g₂ : Addr → Addr → Sem (List (Str × Value))}
    (B : Below A₀ base outer h₀) (F : Fr h₀ L s.heap m) (X₀ : K.In h₀) (N : News h₀ L s.heap news) (T : Top p loose mean mg mb h₀) (hA : A.frames = some (env :: outer)) (hf : env.frame = some L) (hke : env.scope.kind = .function)
    (ho : K.lookup f = some ⟨oc, od, .func (fnOf name qual params body scope dV kV doc pm an cdv ct), osl⟩) (hcd : codeIn K cdv qual = true) (hroom : A.depth < recursionLimit)
    (hp : peekA K ⟨prog, w.params⟩ (bindArgs (fnOf name qual params body scope dV kV doc pm an cdv ct) args) = some (({ cls := .type "tuple", data := .seq #[] } : Obj), g₁))
    (hp₂ : ∀ D, peekA K ⟨prog, w.params⟩ (g₁ D) = some (dictOf [] 0, g₂ D))
    (hk₂ : ∀ C D, g₂ C D = pure (binds C D)) (hloc : ∀ C D, ∀ y ∈ binds C D, scope.names.lookup y.1 = some .local)
    (h : ∀ C D g L' h₁ tk, (∀ p ∈ news, p.1 < C) → C < D → Fr h₀ L g m → Fr g L' h₁ (fun y => (binds C D).reverse.lookup y) → News g L' h₁ ((D, dictOf [] 0) :: (C, ({ cls := .type "tuple", data := .seq #[] } : Obj)) :: news) → Below A base (env :: outer) g → K.In g → Top p loose mean mg mb g →
      wpN (model prog w) (A.deeper (envOf qual scope L' f cdv)) (execs body (envOf qual scope L' f cdv))
        (fun fl s' => LeaveK h₀ L m g R (match fl with | .ret v => v | _ => .none) s') (fun _ _ => False)
        { s with heap := h₁, toks := tk })
    (hco : scope.isCoroutine = false) (hgen : scope.isGenerator = false) (hk : scope.kind = .function)
    (hcell : ∀ x ∈ scope.names, x.2 ≠ .cell) : codeN (model prog w) A (.call (.ref f) args) R s := by
  have X := X₀.keeps F.keep
  refine codeN_call_function (fd := fnOf name qual params body scope dV kV doc pm an cdv ct) (body := body) hroom (X _ _ ho) rfl hco hgen rfl (codeRec_of X hcd) ?_
  refine wp_of_peekA (o := ({ cls := .type "tuple", data := .seq #[] } : Obj)) F N X rfl _ g₁ hp fun h' F' N' l => ?_
  refine wp_of_peekA (s := { s with heap := h' }) (o := dictOf [] 0) F' N' (X₀.keeps F'.keep) rfl _ (g₂ s.heap.objs.size) (hp₂ _) fun h'' F'' N'' l' => ?_
  rw [hk₂]
  refine wpAny_pure ?_
  obtain ⟨FG, BG, st, lv⟩ := groundX (s := { s with heap := h'' }) (R := R) B F'' N'' hA hf hke
  refine wpAny_newFunctionEnv hcell (hloc _ _) (fun h₁ hns₁ hsb₁ => ⟨(T.nolimit.keeps F''.keep).fresh _ hsb₁, codeN_func ?_⟩) hk
  have hk₁ : ∀ b o, h''.get? b = some o → h₁.get? b = some o := fun b o e => hsb₁.extBut b o (Nat.ne_of_lt (Heap.lt_size e)) (Heap.get?_push_of_some _ e)
  exact wpN_mono (h _ _ _ h''.objs.size h₁ _ l (l' _ (.head _)) FG ⟨hns₁, fun b o e => hk₁ b o (of_hideAll _ e), Nat.le_of_eq (hideAll_size _ _)⟩
    (fun p hp => ⟨hk₁ _ _ (N'' p hp).1, Nat.ne_of_lt (Heap.lt_size (N'' p hp).1), hideAll_none _ (List.mem_map_of_mem hp)⟩) BG (X₀.keeps st) (T.keeps st)) (fun fl s' hl => lv _ _ hl) fun _ _ y => y
end
end
section
section
theorem di_sub : isSubtype (.type "dict") (.type "dict") = pure true := by rw [isSubtype_type]; kernel_rfl
variable {M : Model} {A : Around} {E : Value → Shared → Prop} {s : Shared} {h₀ : Heap} {L : Addr} {m : Str → Option Value} {news : List (Addr × Obj)}
theorem noMerge {d a : Addr} {Q : Unit → Shared → Prop} (hd : s.heap.get? d = some emptyDict) (ha : s.heap.get? a = some (dictOf [] 0)) (hn : a ≠ sysModules) (h : Q () s) : wpAny M A (mergeMapping d (.ref a) true) Q E s := by
  have hT : s.TypeIs (.ref a) "dict" := ⟨_, ha, rfl⟩
  unfold mergeMapping
  refine wpAny_bind (wpAny_isInstance hT di_sub ?_)
  rw [if_pos rfl]
  refine wpAny_bind (wpAny_specialOf hT PySem.F.slot_dict_iter.lookup (wpAny_bind (wpAny_pure ?_)))
  rw [show ((some (Value.builtin "dict.__iter__") == some (Value.builtin "dict.__iter__")) = true) from by decide]
  dsimp only
  rw [if_neg (by intro hc; exact hn (eq_of_beq hc))]
  refine wpAny_bind (wpAny_dictEntries hd rfl ?_)
  rw [if_pos (by decide)]
  refine wpAny_bind (wpAny_dictEntries ha rfl ?_)
  refine wpAny_bind (wpAny_pure ?_)
  refine wpAny_bind (wpAny_dictEntries ha rfl ?_)
  refine wpAny_bind (wpAny_dictEpoch ha rfl ?_)
  exact wpAny_bind (wpAny_pure (wpAny_pure h))
theorem evalArgs_kwstar {args : List (Bool × Sem Value)} {kws : List (Option Str × Sem Value)} {t : Sem Value} {u : Bool × Sem Value} {x : Sem Value} {f : Value} {Q : Args → Shared → Prop} {hx : Heap} (_F : Fr h₀ L hx m) (_N : News h₀ L hx news) (ha : args = [(false, t), u]) (hk : kws = [(none, x)])
    (h : wpAny M A (spliced args) (fun vs s₁ => Fr h₀ L s₁.heap m ∧ News h₀ L s₁.heap news ∧
      (∀ h1, Fr h₀ L h1 m → News h₀ L h1 ((s₁.heap.objs.size, emptyDict) :: news) → wpAny M A x (fun v s₂ => ∃ D, v = .ref D ∧ D ≠ sysModules ∧ s₂.heap.get? D = some (dictOf [] 0) ∧ s₂.heap.get? s₁.heap.objs.size = some emptyDict ∧ Q ⟨vs, []⟩ s₂) E { s₁ with heap := h1 })) E s) :
    wpAny M A (evalArgs f true args kws) Q E s := by
  subst ha hk
  unfold evalArgs
  dsimp only
  refine wpAny_bind (m := spliced [(false, t), u]) (wpAny_mono h (fun vs s₁ h₁ => wpAny_bind (wpAny_pure ?_)) fun _ _ y => y)
  obtain ⟨F, N, h₁⟩ := h₁
  refine wpAny_holding ?_
  dsimp only
  rw [if_neg (show ¬ ([((none : Option Str), x)].all fun y => y.1.isSome) = true from Bool.false_ne_true)]
  unfold mergedKeywords
  refine wpAny_bind (wpAny_bind (wpAny_alloc (wpAny_bind (wpAny_holding ?_))))
  dsimp only
  rw [List.forIn_cons]
  refine wpAny_bind (wpAny_bind ?_)
  dsimp only
  rw [if_pos (show (List.isEmpty ([] : List (Str × Sem Value))) = true from rfl)]
  refine wpAny_bind (wpAny_pure ?_)
  have F1 := F.push emptyDict
  have N1 := N.push F emptyDict
  refine wpAny_bind (wpAny_mono (h₁ _ F1 N1) (fun v s₂ h₂ => ?_) fun _ _ y => y)
  obtain ⟨D, rfl, hn, hD, hd, hQ⟩ := h₂
  refine wpAny_bind (wpAny_onRaise (wpAny_holding (wpAny_tryCatch (wpAny_onRaise (noMerge hd hD hn ?_)))))
  refine wpAny_pure ?_
  dsimp only
  rw [List.forIn_nil]
  refine wpAny_pure ?_
  refine wpAny_pure ?_
  refine wpAny_pure ?_
  refine wpAny_bind (wpAny_pure (wpAny_bind (wpAny_holding ?_)))
  unfold keywordsIn
  refine wpAny_bind (wpAny_dictEntries hd rfl ?_)
  exact wpAny_bind (wpAny_pure (wpAny_pure (wpAny_pure hQ)))
end
section
variable {M : Model} {A : Around} {E : Value → Shared → Prop} {s : Shared} {env : Env}
theorem calleeOf_few {o : Expr} {ov : Value} {name : Str} {few : Bool} {Q : Value × List Value → Shared → Prop} (hf : few = true) (h : wpAny M A (getMethod ov name (do return (← importBound o env).getD true)) Q E s) : wpAny M A (calleeOf few o env ov name) Q E s := by
  subst hf
  exact h
theorem calleeOf_many {o : Expr} {ov : Value} {name : Str} {few : Bool} {Q : Value × List Value → Shared → Prop} (hf : few = false) (h : wpAny M A (getAttr ov name true) (fun v s' => Q (v, []) s') E s) : wpAny M A (calleeOf few o env ov name) Q E s := by
  subst hf
  exact wpAny_bind (wpAny_mono h (fun v s' h' => wpAny_pure h') fun _ _ x => x)
end
section
variable {M : Model} {A : Around} {E : Value → Shared → Prop} {s : Shared} {env : Env}
/-- a value worked out for an argument -/
theorem arg_here {e : Expr} {pos : Pos} {Q : Value → Shared → Prop} (h : wpAny M A (eval e env) Q E s) : wpAny M A (do let v ← eval e env; standAt pos; pure v) Q E s := wpAny_bind (wpAny_mono h (fun _ _ h' => wpAny_bind (wpAny_standAt (wpAny_pure h'))) fun _ _ x => x)
end
section
variable {prog : Program} {w : World} {A : Around} {E : Value → Shared → Prop} {R : Result → Shared → Prop} {s : Shared}
theorem codeN_method {q : Addr} {f self : Value} {pos : List Value} {kw : List (Str × Value)} (ho : s.heap.get? q = some (methodObj f self))
    (h : codeN (model prog w) A (.call f ⟨self :: pos, kw⟩) R s) : codeN (model prog w) A (.call (.ref q) ⟨pos, kw⟩) R s := by
  obtain ⟨hh, g, dr, t, os⟩ := s
  refine codeN_of_tree ?_
  show wpN _ _ (callAny (.ref q) _) _ _ _
  dsimp only at ho
  refine fun Γ p hΓ fr => ⟨_, ho, ?_⟩
  cases f <;> exact (wpN_pure (Q := _) (And.intro rfl (And.intro rfl h))) Γ p hΓ fr
theorem N_call_meth {q : Addr} {f self : Value} {pos : List Value} {kw : List (Str × Value)} {Q : Value → Shared → Prop} (ho : s.heap.get? q = some (methodObj f self))
    (hn : codeN (model prog w) A (.call f ⟨self :: pos, kw⟩) (fun r s' => match r with | .ok (.ret v) => Q v s' | .ok _ => False | .error e => E e s') s) : wpN (model prog w) A (call (.ref q) pos kw) Q E s :=
  wpN_call (codeN_method ho hn)
end
section
variable {M : Model} {A : Around} {E : Value → Shared → Prop} {s : Shared}
theorem evalArgs_pl {args : List (Bool × Sem Value)} {kws : List (Option Str × Sem Value)} {t : Sem Value} {rest : List (Bool × Sem Value)} {f : Value} {Q : Args → Shared → Prop} (ha : args = (false, t) :: rest) (hk : kws = [])
    (h : wpAny M A (spliced args) (fun vs s₁ => Q ⟨vs, []⟩ s₁) E s) : wpAny M A (evalArgs f true args kws) Q E s := by
  subst ha hk
  exact evalArgs_plain h
end
end
section
section
variable {prog : Program} {w : World} {A : Around} {E : Value → Shared → Prop} {s : Shared} {K : Frag} {x y C L f : Addr} {h₀ : Heap} {m : Str → Option Value} {ox oy : Obj} {od oe : Option Obj} {name : Str}
theorem N_ifBound {M : Model} {args : List Value} {Q : Option Value → Shared → Prop} (X : K.In s.heap) (I : InstAt s.heap x ox C od) (hs : findIn K (.ref C) name = some (some (.ref f))) (hf : isFn K (.ref f) = true)
    (h : wpN M A (call (.ref f) (.ref x :: args)) (fun v => Q (some v)) E s) : wpN M A (callSpecialIfBound? (.ref x) name args) Q E s := by
  simp only [callSpecialIfBound?, bindSpecialIfBound?]
  refine wpN_holding (wpN_bindA (wpAny_bind (wpAny_bind (I.type.here ((looks_findIn X hs).here ?_)))))
  refine wpAny_bind (wpAny_askSetting (wpAny_ite ?_))
  have fin : wpN M A (call (.ref f) ([.ref x] ++ args) >>= fun v => pure (some v)) Q E s := wpN_bind (wpN_mono h (fun v s' h' => wpN_pure h') fun _ _ h' => h')
  split
  · exact wpAny_bind ((bind_fn X _ (beq_iff_eq.mp hf)).here (wpAny_pure (by exact fin)))
  · exact wpAny_tryCatch (wpAny_bind ((bind_fn X _ (beq_iff_eq.mp hf)).here (wpAny_pure (by exact fin))))
/-- two objects of one class compared: their class's method is called -/
theorem N_cmp {op : CmpOp} {Q : Value → Shared → Prop} (hop : op ≠ .Is ∧ op ≠ .IsNot ∧ op ≠ .In ∧ op ≠ .NotIn) (hu : A.units < cLine) (F : Fr h₀ L s.heap m) (X₀ : K.In h₀) (I : InstAt s.heap x ox C od) (J : InstAt s.heap y oy C oe)
    (hs : findIn K (.ref C) (cmpInfo op).2.1 = some (some (.ref f))) (hf : isFn K (.ref f) = true)
    (h : wpN (model prog w) A (call (.ref f) [.ref x, .ref y]) (fun v s' => ∃ b, v = .bool b ∧ Q (.bool b) s') E s) : wpN (model prog w) A (compareOp op (.ref x) (.ref y)) Q E s := by
  have X := X₀.keeps F.keep
  have one : wpN (model prog w) A (tryCompare (.ref x) (cmpInfo op).2.1 (.ref y)) (fun r s' => ∃ v, r = some v ∧ Q v s') E s := by
    unfold tryCompare
    refine wpN_bind (N_ifBound X I hs hf (wpN_mono h (fun v s' hv => ?_) fun _ _ e => e))
    obtain ⟨b, rfl, hq⟩ := hv
    exact wpN_pure ⟨_, rfl, hq⟩
  have e : compareOp op (.ref x) (.ref y) = richCompare op (.ref x) (.ref y) := by
    obtain ⟨h1, h2, h3, h4⟩ := hop
    cases op <;> first | rfl | exact (h1 rfl).elim | exact (h2 rfl).elim | exact (h3 rfl).elim | exact (h4 rfl).elim
  rw [e]
  unfold richCompare
  simp only [oneThing_ref]
  refine wpN_holding (wpN_bindA (wpAny_cRoomFor hu ?_))
  refine wpN_bindA (I.type.here (wpN_bindA (J.type.here ?_)))
  simp only [bne_self_eq_false, Bool.false_eq_true, if_false]
  refine wpN_bind (wpN_pure ?_)
  simp only [Bool.false_eq_true, if_false]
  refine wpN_bind (wpN_mono one (fun r s' z => ?_) fun _ _ e => e)
  obtain ⟨v, rfl, hq⟩ := z
  exact wpN_pure hq
end
end
section
section
open Builtin Builtin.ObjectAttr
theorem kind_hasattr : builtinKind "hasattr" = none := by decide +kernel
theorem plain_hasattr : plainId "hasattr" = true := by decide +kernel
theorem entry_hasattr : entryFor table "hasattr" = some Builtin.«hasattr» := entryFor_of_tree (by kernel_rfl)
theorem args_hasattr (a b : Value) : argsOk "hasattr" ⟨[a, b], []⟩ := by unfold argsOk; kernel_rfl
variable {prog : Program} {w : World} {A : Around} {E : Value → Shared → Prop} {s : Shared} {K : Frag} {x C f L : Addr} {ox od : Obj} {name : Str} {h₀ : Heap} {m : Str → Option Value} {news : List (Addr × Obj)} {es : List DictEntry} {n : Nat} {Q : Value → Shared → Prop} {t : Tok}
/-- a method bound by a look-up that asks whether it is there -/
theorem asks_bound {Q : Value → Shared → Prop} (F : Fr h₀ L s.heap m) (X₀ : K.In h₀) (N : News h₀ L s.heap news) (I : InstAt s.heap x ox C (some (dictOf es n))) (hg : plainGet K C name = true) (hh : hasDictIn K C = true) (ha : findIn K (.ref C) name = some (some (.ref f))) (hf : isFn K (.ref f) = true)
    (hgf : specialIn K (.ref f) "__get__" = some (some (.builtin "function.__get__"))) (ht : takesIn K (.ref f) = some false) (hc : copiedNames.contains name = false) (hl : getL name es = some none)
    (h : ∀ q h', Fr h₀ L h' m → News h₀ L h' ((q, methodObj (.ref f) (.ref x)) :: news) → (∀ p ∈ news, p.1 < q) → Q (.ref q) { s with heap := h' }) : wpAny (model prog w) A (getAttrBy (.ref x) (.str name t) false) Q E s := by
  have X := X₀.keeps F.keep
  have hfo := findObj_fn (od := dictOf es n) hh ha hgf ht hc (by show lookIn name (dictOf es n) = _; rw [lookIn_dict, hl])
  obtain ⟨hh', g, d, tk, os⟩ := s
  have L0 := I.type (M := model prog w)
  have L1 := looks_findIn (M := model prog w) X (plainGet_of hg).1
  have L2 := looks_find (M := model prog w) X I hfo
  have L3 := looks_findIn (M := model prog w) X (plainGet_of hg).2
  unfold getAttrBy
  refine wpAny_holding (wpAny_bind (L0.at (wpAny_bind (L1.at ?_))))
  show wpAny _ _ (getAttrEveryday _ _ _) _ _ _
  refine wpAny_bind (wpAny_onRaise (wpAny_runValue (codeAny_builtin PySem.F.plainObj_entry_getattr_hooked ?_)))
  refine wpAny_bind (wpAny_pure (wpAny_bind (L0.at (wpAny_bind (L2.at (wpAny_bind (L3.at ?_)))))))
  show wpAny _ _ (holding [.ref f] (call (.builtin "function.__get__") [.ref f, .ref x, .ref C]) >>= ret) _ _ _
  exact wpAny_bind (wpAny_holding (wpAny_call (fn_get X (beq_iff_eq.mp hf) (wpAny_pure (handed_on rfl (h hh'.objs.size _ (F.push _) (N.push F _) fun p hp => Heap.lt_size (N p hp).1))))))
theorem hasattr2 {Q : Value → Shared → Prop} (hT : Looks (model prog w) s.heap (typeOf (.ref x)) (.ref C)) (hm : Looks (model prog w) s.heap (isSubtype (.ref C) (.type "module")) false)
    (h : wpAny (model prog w) A.in1 (getAttrBy (.ref x) (.str name t) false) (fun _ s' => Q (.bool true) s') (fun _ _ => False) s) : wpAny (model prog w) A (call (.builtin "hasattr") [.ref x, .str name t]) Q E s := by
  refine Calls.call_function_entry kind_hasattr plain_hasattr entry_hasattr (args_hasattr _ _) ?_
  unfold Builtin.«hasattr»
  refine wpAny_bind (wpAny_of_eq (a := [.ref x, .str name t]) (by first | rfl | kernel_rfl) ?_)
  dsimp only
  refine wpAny_bind (wpAny_of_eq (a := ()) (by first | rfl | kernel_rfl) ?_)
  rw [if_neg (show ¬ ((Value.ref x == Value.builtin "__main__.__loader__#opaque") = true) from Bool.false_ne_true)]
  refine wpAny_bind (hT.here ?_)
  dsimp only
  refine wpAny_bind ?_
  refine wpAny_bind (m := asStr? (.str name t)) (wpAny_of_eq (a := some name) rfl ?_)
  dsimp only
  refine wpAny_bind (m := isInstance (.ref x) (.type "module")) ((hT.andThen hm).here ?_)
  simp only [Bool.not_false, if_true]
  refine wpAny_pure ?_
  rw [if_neg (by decide)]
  refine wpAny_bind ?_
  unfold getAttrBy?
  refine wpAny_bind (wpAny_attempt (wpAny_mono h (fun v s' hv => ?_) fun _ _ x => x.elim))
  refine wpAny_pure ?_
  simp only [Option.isNone, Option.isSome, Bool.false_and, Bool.false_eq_true, if_false]
  exact wpAny_pure ⟨_, rfl, hv⟩
end
end
section
section
open Builtin
theorem by_slot_gt : Slot "bytes" (cmpInfo .Gt).2.1 "bytes.__gt__" :=
  .of (owner := "bytes") (n := "__gt__") (by rw [typeLookup_type, builtinLookup_eq_fast]; kernel_rfl) (by decide +kernel) (by decide +kernel) (by decide +kernel)
    (by first | exact .inl (by decide +kernel) | exact .inr (by decide +kernel)) (by rw [isSubtype_type]; kernel_rfl)
theorem by_slot_lt : Slot "bytes" (cmpInfo .Lt).2.1 "bytes.__lt__" :=
  .of (owner := "bytes") (n := "__lt__") (by rw [typeLookup_type, builtinLookup_eq_fast]; kernel_rfl) (by decide +kernel) (by decide +kernel) (by decide +kernel)
    (by first | exact .inl (by decide +kernel) | exact .inr (by decide +kernel)) (by rw [isSubtype_type]; kernel_rfl)
theorem by_entry_gt : entryFor table "bytes.__gt__" = some Builtin.«bytes.__gt__» := entryFor_of_tree (by kernel_rfl)
theorem by_entry_lt : entryFor table "bytes.__lt__" = some Builtin.«bytes.__lt__» := entryFor_of_tree (by kernel_rfl)
theorem by_args_gt (a b : Value) : argsOk "bytes.__gt__" ⟨[a, b], []⟩ := by unfold argsOk; kernel_rfl
theorem by_args_lt (a b : Value) : argsOk "bytes.__lt__" ⟨[a, b], []⟩ := by unfold argsOk; kernel_rfl
/-- the order of octets -/
def gtB (b c : Array UInt8) : Bool := Bytes.order b.toList c.toList == .gt
def ltB (b c : Array UInt8) : Bool := Bytes.order b.toList c.toList == .lt
theorem gives_gt (b c : Array UInt8) (t u : Tok) : Gives («bytes.__gt__» ⟨[.bytes b t, .bytes c u], []⟩) (.val (.bool (gtB b c))) := by
  refine .of_wp fun M A E s Q hq => ?_
  show wpAny M A (isInstance (.bytes c u) (.type "bytes") >>= fun r => _) _ E s
  refine wpAny_bind (wpAny_isInstance (typeIs_bytes s c u) F.sub_bytes_bytes ?_)
  exact wpAny_pure ⟨_, rfl, hq⟩
theorem gives_lt (b c : Array UInt8) (t u : Tok) : Gives («bytes.__lt__» ⟨[.bytes b t, .bytes c u], []⟩) (.val (.bool (ltB b c))) := by
  refine .of_wp fun M A E s Q hq => ?_
  show wpAny M A (isInstance (.bytes c u) (.type "bytes") >>= fun r => _) _ E s
  refine wpAny_bind (wpAny_isInstance (typeIs_bytes s c u) F.sub_bytes_bytes ?_)
  exact wpAny_pure ⟨_, rfl, hq⟩
variable {prog : Program} {w : World} {A : Around} {E : Value → Shared → Prop} {s : Shared} {b c : Array UInt8} {t u : Tok}
theorem gt_bytes {Q : Value → Shared → Prop} (h : Q (.bool (gtB b c)) s) : wpAny (model prog w) A (compareOp .Gt (.bytes b t) (.bytes c u)) Q E s :=
  compareOp_gives (op := .Gt) (typeIs_bytes s b t) (typeIs_bytes s c u) by_slot_gt by_entry_gt (by_args_gt _ _) (gives_gt b c t u) (fun e => nomatch e) h
theorem lt_bytes {Q : Value → Shared → Prop} (h : Q (.bool (ltB b c)) s) : wpAny (model prog w) A (compareOp .Lt (.bytes b t) (.bytes c u)) Q E s :=
  compareOp_gives (op := .Lt) (typeIs_bytes s b t) (typeIs_bytes s c u) by_slot_lt by_entry_lt (by_args_lt _ _) (gives_lt b c t u) (fun e => nomatch e) h
end
section
theorem by_noI : typeLookup (.type "bytes") (dunderI "add") = pure none := by rw [typeLookup_type, builtinLookup_eq_fast]; kernel_rfl
variable {prog : Program} {w : World} {A : Around} {E : Value → Shared → Prop} {s : Shared} {b c : Array UInt8} {t u : Tok} {Q : Value → Shared → Prop}
theorem iadd_bytes (hsz : b.size + c.size ≤ 16777216) (h : ∀ t' k, Q (.bytes (b ++ c) t') { s with toks := k }) : wpAny (model prog w) A (inplaceOp .Add (.bytes b t) (.bytes c u)) Q E s := by
  refine iconcat_gives (typeIs_bytes s b t) (typeIs_bytes s c u) by_noI KBy.noFill_bytes_add KBy.seq_bytes_add FB.slot_bytes_add FB.entry_bytes_add (FB.args_bytes_add_2 _ _) (KBy.gives_bytes_add (KBy.tooLong_not hsz)) ?_
  by_cases hb : b.isEmpty = true
  · rw [if_pos hb]
    have e : b = #[] := Array.isEmpty_iff.1 hb
    have h' := h u s.toks
    rw [e, Array.empty_append] at h'
    exact h'
  · rw [if_neg hb]
    by_cases hc : c.isEmpty = true
    · rw [if_pos hc]
      have e : c = #[] := Array.isEmpty_iff.1 hc
      have h' := h t s.toks
      rw [e, Array.append_empty] at h'
      exact h'
    · rw [if_neg hc]
      exact ⟨by rw [Array.size_append, sizeLine_eq]; exact hsz, h _ _⟩
end
end
section
section
variable {M : Model} {A : Around} {E : Value → Shared → Prop} {s : Shared} {env : Env}
theorem keeps_builtin {n : String} : ∀ h, (fun _ : Heap => True) h → ∃ k, (k = Keeper.frame ∨ k = Keeper.machine ∨ k = Keeper.boundFrame) ∧ Looks M h (keeperOf (.builtin n)) k := fun _ _ => ⟨_, .inr (.inl rfl), Looks.of_pure rfl⟩
theorem N_callWithN {P : Heap → Prop} {pos : Pos} {f : Value} {first : List Value} {Q : Value → Shared → Prop} {args : List (Bool × Sem Value)} {keywords : List (Option Str × Sem Value)}
    (hk : ∀ h, P h → ∃ k, (k = Keeper.frame ∨ k = Keeper.machine ∨ k = Keeper.boundFrame) ∧ Looks M h (keeperOf f) k)
    (h : wpN M A (evalArgs f true args keywords) (fun a s₁ => P s₁.heap ∧ wpN M A (call f (first ++ a.pos) a.kw) Q E s₁) E s) : wpN M A (callWith pos f first args keywords) Q E s := by
  unfold callWith
  refine wpN_bind (wpN_holding (wpN_mono h (fun a s₁ h₁ => wpN_bind (wpN_standAt ?_)) fun _ _ x => x))
  obtain ⟨k, hk', L⟩ := hk _ h₁.1
  refine wpN_bindA (L.here ?_)
  have tail : ∀ {t : Sem Value}, wpN M A t Q E s₁ → wpN M A (t >>= fun r => holding [r] point >>= fun _ => pure r) Q E s₁ :=
    fun ht => wpN_bind (wpN_mono ht (fun r s₂ hr => wpN_bindA (wpAny_holding (wpAny_point (wpN_pure hr)))) fun _ _ x => x)
  have marked (mk : Value) : wpN M A (callMarked mk f (first ++ a.pos) a.kw) Q E s₁ := by unfold callMarked; exact wpN_keep h₁.2
  have oper (vs : List Value) : wpN M A (operate vs (call f (first ++ a.pos) a.kw)) Q E s₁ := wpN_operate h₁.2
  cases hst : (args.any (·.1) || keywords.any (·.1.isNone)) <;> rcases hk' with rfl | rfl | rfl <;> dsimp only <;> first | exact tail h₁.2 | exact tail (marked _) | exact tail (oper _) | (split <;> first | exact tail h₁.2 | exact tail (marked _))
/-- one plain argument, worked out among free contexts -/
theorem N_evalArgs1 {args : List (Bool × Sem Value)} {kws : List (Option Str × Sem Value)} {t : Sem Value} {f : Value} {Q : Args → Shared → Prop} (ha : args = [(false, t)]) (hk : kws = [])
    (h : wpN M A t (fun v s₁ => Q ⟨[v], []⟩ s₁) E s) : wpN M A (evalArgs f true args kws) Q E s := by
  subst ha hk
  unfold evalArgs
  show wpN M A (spliced [(false, t)] >>= _) Q E s
  have e : wpN M A (spliced [(false, t)]) (fun vs s₁ => Q ⟨vs, []⟩ s₁) E s := by
    rw [spliced]
    refine wpN_bind (wpN_mono h (fun v s₁ h₁ => ?_) fun _ _ x => x)
    simp only [Bool.false_eq_true, if_false]
    exact wpN_bind (wpN_pure (wpN_bind (wpN_holding (wpN_pure (wpN_pure h₁)))))
  refine wpN_bind (wpN_mono e (fun vs s' h' => ?_) fun _ _ x => x)
  refine wpN_holding ?_
  exact wpN_bind (wpN_pure (wpN_bind (wpN_pure (wpN_pure h'))))
/-- a value worked out for an argument -/
theorem N_arg {e : Expr} {pos : Pos} {Q : Value → Shared → Prop} (h : wpN M A (eval e env) Q E s) : wpN M A (do let v ← eval e env; standAt pos; pure v) Q E s := wpN_bind (wpN_mono h (fun _ _ h' => wpN_bind (wpN_standAt (wpN_pure h'))) fun _ _ x => x)
end
end
section
/-- a tree that is the other one but where a code around holds a buffer -/
def besides {α : Type} (x t : Sem α) : Sem α := .stack fun st => if st.any (fun q => isHold q.1) then x else t
theorem any_below {Γ : PySem.Ctx} {p : Pos} : (((Γ.code, p) :: Γ.below).any fun q => isHold q.1) = false ↔ Free Γ := by
  rw [List.any_eq_false]
  constructor
  · intro h
    refine ⟨?_, fun q hq => ?_⟩
    · have := h (Γ.code, p) (List.mem_cons_self ..)
      simpa using this
    · have := h q (List.mem_cons_of_mem _ hq)
      simpa using this
  · intro h q hq
    rcases List.mem_cons.mp hq with rfl | hq
    · rw [h.1]; exact Bool.false_ne_true
    · rw [h.2 q hq]; exact Bool.false_ne_true
theorem besides_wp {α : Type} {M : Model} {A : Around} {x t : Sem α} {Q : α → Shared → Prop} {E : Value → Shared → Prop} {s : Shared} (hx : wpAny M A x Q E s) (ht : wpN M A t Q E s) : wpAny M A (besides x t) Q E s := fun Γ p hΓ => by
  unfold besides
  rw [Sem.wp_stack]
  cases hb : (((Γ.code, p) :: Γ.below).any fun q => isHold q.1) with
  | true => exact hx Γ p hΓ
  | false => exact ht Γ p hΓ (any_below.mp hb)
theorem besides_out {α : Type} {M : Model} {A : Around} {x t : Sem α} {Q : α → Shared → Prop} {E : Value → Shared → Prop} {s : Shared} (h : wpAny M A (besides x t) Q E s) : wpN M A t Q E s := fun Γ p hΓ f => by
  have := h Γ p hΓ
  unfold besides at this
  rw [Sem.wp_stack, any_below.mpr f] at this
  exact this
theorem besides_left {α : Type} {M : Model} {A : Around} {x t : Sem α} {Q : α → Shared → Prop} {E : Value → Shared → Prop} {s : Shared} (h : wpAny M A (besides x t) Q E s) : ∀ Γ p, Γ.In A → ¬ Free Γ → Sem.wp M Γ x (fun a _ s' => Q a s') (fun e _ s' => E e s') p s := fun Γ p hΓ f => by
  have := h Γ p hΓ
  unfold besides at this
  rw [Sem.wp_stack] at this
  cases hb : (((Γ.code, p) :: Γ.below).any fun q => isHold q.1) with
  | true => rw [hb] at this; exact this
  | false => exact (f (any_below.mp hb)).elim
/-- the test's one step taken out of a run -/
theorem unstack_from {c : ClaimW} {x t : List Value → Sem Fin} {w : World} {free : Addr → Prop} {gens : Prop} {kept : Heap → Prop} {s₀ : Shared} (z : s₀.asleep)
    (h : c.CallFrom (fun vs => ⟨besides (x vs) (t vs), .builtin "claim.caller" {}, default, []⟩) w free gens kept s₀) : c.CallFrom (fun vs => ⟨t vs, .builtin "claim.caller" {}, default, []⟩) w free gens kept s₀ := by
  intro args hpre hlay ord hord
  obtain ⟨vs, s₁, hl, n, o, s', hr, rest⟩ := h args hpre hlay ord hord
  have hal := layAllW_rest _ _ _ hl
  have z₁ : s₁.asleep := Shared.asleep_of_life hal.2.2.2 z
  cases n with
  | zero => cases hr
  | succ n =>
    refine ⟨vs, s₁, hl, n, o, s', ?_, rest⟩
    have e : sstep (denote table) c.prog w (.single s₁ ⟨besides (x vs) (t vs), .builtin "claim.caller" {}, default, []⟩) = .go (.single s₁ ⟨t vs, .builtin "claim.caller" {}, default, []⟩) := by
      rcases sstep_single (denote table) c.prog w s₁ ⟨besides (x vs) (t vs), .builtin "claim.caller" {}, default, []⟩ rfl z₁ with e | e
      · rw [e]; rfl
      · cases e
    simp only [schedN, e] at hr
    exact hr
theorem unstack {c : ClaimW} {x t : List Value → Sem Fin} {defs kps : List Str} {writes : Bool} (H : c.HoldsOpenBy (fun vs => ⟨besides (x vs) (t vs), .builtin "claim.caller" {}, default, []⟩) defs kps writes) :
    c.HoldsOpenBy (fun vs => ⟨t vs, .builtin "claim.caller" {}, default, []⟩) defs kps writes := by
  obtain ⟨a, b, h⟩ := H
  refine ⟨a, b, fun w => ⟨(h w).1, fun s hs => ?_⟩⟩
  obtain ⟨s₀, hf, hg, s₁, hT, hd, h1, h2, hc⟩ := (h w).2 s hs
  have z₀ : s₀.asleep := Shared.asleep_of_life (fence_lifeW hf) (AfterImport.life hs)
  exact ⟨s₀, hf, hg, s₁, hT, hd, h1, h2, unstack_from (Shared.asleep_of_life hT.2.1 z₀) hc⟩
/-- what the walk owes: the answer True at once, and the call among free contexts -/
abbrev WalkFree (q : Program) (loose : List Str) (XP : (Str → Option Value) → Heap → Prop) (YP : World → Heap → Prop) (r : RowW) (d : DefRec) (kwd : List (Str × Expr)) : Prop :=
  ∀ (w : World) (s₀ s₁ : Shared) (mg mb : Str → Option Value), Ground q loose r.records XP w s₀ mg mb s₁.heap → YP w s₁.heap → ∀ (a : Addr) (o : Obj) (pm cd doc dV kV : Value), s₁.heap.get? a = some o →
    o.data = .func { docDef d.name d.params d.body d.scope pm cd doc with defaults := dV, kwdefaults := kV } → s₁.heap.CodeRec cd d.name → Dflts mg s₁.heap d.params kwd dV kV → mg d.name = some (.ref a) → s₁.gens = #[] →
    ∀ (args : List WData) (vals : List Value) (as : List Addr), r.claim.pre args = true → WData.layableAll args = true → ReadsAllW r.records (classAt s₀.heap) s₁.heap vals args as → WellAll w.params s₁.heap vals args → (∀ a ∈ as, (a == sysModules) = false) →
      GoodWG r.claim (classAt s₀.heap) (ExcName.means s₀.heap) args s₁ (.ok (.ret (.bool true))) s₁ ∧
      wpN (model r.prog w) callerA (call (.ref a) vals) (fun v s' => GoodWG r.claim (classAt s₀.heap) (ExcName.means s₀.heap) args s₁ (.ok (.ret v)) s')
        (fun e s' => GoodWG r.claim (classAt s₀.heap) (ExcName.means s₀.heap) args s₁ (.error e) s') s₁
theorem holds_free {r : OpenRow} {q : Program} {loose : List Str} {Xt : Shared → Bool} {XP : (Str → Option Value) → Heap → Prop} {α : Type} {Yf : Shared → α} {Ya : World → α} {YP : World → Heap → Prop} {d : DefRec} {kwd : List (Str × Expr)} {N : Nat}
    (left : LeftO r.prog q loose Xt Yf Ya N) (hY : ∀ w s, Yf s = Ya w → YP w s.heap) (hYk : ∀ w h h', YP w h → (∀ b o, h.get? b = some o → h'.get? b = some o) → YP w h')
    (hX : ∀ s, Xt s = true → XP (s.heap.nsMap mainGlobals) s.heap) (hXk : ∀ mg h h', XP mg h → (∀ b o, h.get? b = some o → h'.get? b = some o) → XP mg h')
    (hdef : defOf q r.name = some (d, kwd)) (hp : r.prog.theDef r.name = some (d.params, d.body, d.scope)) (hk : kwWritten? d.params.kwonlyargs d.params.kw_defaults = some kwd) (hRf : ∀ s, Xt s = true → RecFacts r.records s.heap) (hwr : (!r.writes || r.records.isEmpty) = true)
    (k1 : r.wellSaid = true) (ok : (chainsOk q && opensWell r.prog && (frees r.toRowW && r.within.isEmpty)) = true) (hb : r.prog.bare) (hw : r.toRowW.promised)
    (walk : WalkFree q loose XP YP r.toRowW d kwd) : r.Holds := by
  have main := open_anyG (r := r.toRowW) (run := fun f vs => besides (pure (.bool true)) (call f vs)) (defs := if r.pinned then [r.name] else []) (kps := r.keeps) (writes := r.writes) (tree := fun vs => besides (pure (.done (.ret (.bool true)))) (do
      match ← nsGet mainNs r.name with
      | some f => do ret (← call f vs)
      | none => unsupported "claim.caller:no-such-global")) left hY hYk hX hXk hRf hwr ok hb hw
    (fun vs w s mg f Q E hg hf h Γ p hΓ => ?_) (fun w s hg G n hn => ?_) fun w s₀ s₁ mg mb G Y args vs as hpre hlay L low => ?_
  · exact ⟨k1, hw, unstack main⟩
  · by_cases hfree : Free Γ
    · have h2 : wpN (model r.toRowW.prog w) callerA (do
          match ← nsGet mainNs r.name with
          | some f => do ret (← call f vs)
          | none => unsupported "claim.caller:no-such-global") Q E s :=
        wpN_bindA (wpAny_nsGet hg (by rw [hf]; exact wpN_bind (wpN_mono (besides_out h) (fun _ _ x => wpN_pure x) fun _ _ x => x)))
      unfold besides
      rw [Sem.wp_stack, any_below.mpr hfree]
      exact h2 Γ p hΓ hfree
    · have h2 := besides_left h Γ p hΓ hfree
      unfold besides
      rw [Sem.wp_stack]
      cases hb : (((Γ.code, p) :: Γ.below).any fun q => isHold q.1) with
      | true => exact h2
      | false => exact (hfree (any_below.mp hb)).elim
  · obtain rfl : n = r.name := by split at hn <;> simp_all
    exact pinned_of_view hg G hdef hp hk
  · obtain ⟨a, o, pm, cd, doc, dV, kV, h1, h2, h3, h4, h5⟩ := G.fn hdef
    obtain ⟨g1, g2⟩ := walk w s₀ s₁ mg mb G Y a o pm cd doc dV kV h2 h3 h4 h5 (defOf_name hdef ▸ h1) L.gens args vs as hpre hlay L.reads L.well (L.low low)
    exact ⟨.ref a, h1, besides_wp (wpAny_pure g1) g2⟩
end
section
/-- the row's program -/
abbrev theProg : Program := PySem.Challenge.rw_fc0054_01.row.prog
/-- the statements of the top that the head keeps in sight -/
def viewP : Program := { theProg with main := { theProg.main with body := ([0, 2, 3, 4, 6, 7, 9, 10, 11, 12, 13, 15, 16, 17, 18, 19, 20, 21, 22, 25, 26, 27, 29, 31, 32, 33, 34, 35, 36, 37, 38, 40, 41, 43, 44, 45, 46, 48, 49, 50, 51, 52, 53, 54] : List Nat).filterMap fun i => theProg.main.body[i]? } }
def looseL : List PySem.Str := [PySem.Str.ofString "Sha256", PySem.Str.ofString "hashlib", PySem.Str.ofString "ec_pubkey_serialize", PySem.Str.ofString "ecdsa_sign", PySem.Str.ofString "NETWORKS", PySem.Str.ofString "UnsupportedOperation", PySem.Str.ofString "IOBase", PySem.Str.ofString "BufferedIOBase", PySem.Str.ofString "TextIOBase", PySem.Str.ofString "BytesIO", PySem.Str.ofString "StringIO", PySem.Str.ofString "EmbitBase", PySem.Str.ofString "EmbitKey", PySem.Str.ofString "Signature", PySem.Str.ofString "PublicKey", PySem.Str.ofString "PrivateKey"]
def topX (s : Shared) : Bool := xlAt viewP [] s && recOk (RowW.records (OpenRow.toRowW PySem.Challenge.rw_fc0054_01.row)) s
/-- where the objects stand that are written out -/
def addrs : List Addr := [2, 3, 15, 17, 18, 20, 21, 22, 25, 26, 34, 35, 37, 38, 40, 41, 42, 44, 45, 47, 48, 49, 51, 52, 54, 55, 56, 57, 58, 59, 60, 70, 71, 73, 74, 76, 77, 78, 79, 80, 81, 83, 84, 86, 87, 88, 89, 90, 91, 92, 93, 94, 95, 98, 100, 101, 103, 104, 105, 107, 108, 110, 111, 112, 114, 115, 117, 118, 119, 121, 122, 124, 125, 126, 128, 129, 131, 132, 133, 135, 136, 138, 139, 140, 142, 143, 145, 146, 147, 149, 150, 152, 153, 154, 156, 157, 159, 160, 161, 163, 164, 166, 167, 168, 169, 171, 172, 174, 175, 176, 177, 179, 180, 182, 183, 184, 186, 187, 189, 190, 191, 193, 194, 196, 197, 198, 199, 200, 201, 202, 203, 210, 211, 212, 213, 216, 218, 219, 221, 222, 223, 225, 226, 228, 229, 230, 237, 238, 239, 240, 250, 252, 253, 255, 256, 257, 258, 259, 260, 261, 262, 265, 272, 273, 274, 277, 284, 285, 286, 289, 296, 297, 299, 300, 302, 303, 304, 306, 307, 309, 310, 311, 313, 314, 316, 317, 318, 320, 321, 323, 324, 325, 326, 328, 329, 331, 332, 333, 335, 336, 338, 339, 340, 342, 343, 345, 346, 347, 349, 350, 352, 353, 354, 356, 357, 359, 360, 361, 363, 364, 366, 367, 368, 370, 371, 373, 374, 375, 377, 378, 380, 381, 382, 384, 385, 387, 388, 389, 391, 392, 394, 395, 396, 398, 399, 401, 402, 403, 405, 406, 408, 409, 410, 412, 413, 415, 416, 417, 418, 420, 421, 423, 424, 425, 426, 428, 429, 431, 432, 433, 434, 436, 437, 439, 440, 441, 442, 444, 445, 447, 448, 449, 451, 452, 454, 455, 456, 458, 459, 461, 462, 463, 464, 466, 467, 469, 470, 471, 472, 474, 475, 477, 478, 479, 481, 482, 484, 485, 486, 488, 489, 491, 492, 493, 495, 496, 498, 499, 500, 502, 503, 505, 506, 507, 509, 510, 512, 513, 514, 515, 516, 519, 526, 527, 529, 530, 532, 533, 534, 536, 537, 539, 540, 541, 543, 544, 546, 547, 548, 550, 551, 553, 554, 555, 557, 558, 560, 561, 562, 564, 565, 567, 568, 569, 570, 572, 573, 575, 576, 577, 578, 580, 581, 583, 584, 585, 586, 588, 589, 591, 592, 593, 594, 596, 597, 599, 600, 601, 602, 604, 605, 607, 608, 609, 611, 612, 614, 615, 616, 618, 619, 621, 622, 623, 625, 626, 628, 629, 630, 632, 633, 635, 636, 637, 639, 640, 642, 643, 644, 646, 647, 649, 650, 651, 653, 654, 656, 657, 658, 660, 661, 663, 664, 665, 667, 668, 670, 671, 672, 674, 675, 677, 678, 679, 681, 682, 684, 685, 686, 687, 689, 690, 692, 693, 694, 695, 697, 698, 700, 701, 702, 703, 705, 706, 708, 709, 710, 711, 713, 714, 716, 717, 718, 719, 721, 722, 724, 725, 726, 728, 729, 731, 732, 733, 735, 736, 738, 739, 740, 742, 743, 745, 746, 747, 749, 750, 752, 753, 754, 756, 757, 759, 760, 761, 762, 763, 773, 775, 776, 778, 779, 780, 781, 782, 783, 785, 786, 788, 789, 790, 791, 792, 793, 795, 796, 798, 799, 800, 802, 803, 805, 806, 807, 809, 810, 812, 813, 814, 816, 817, 819, 820, 821, 822, 823, 824, 826, 827, 829, 830, 831, 833, 834, 836, 837, 838, 840, 841, 843, 844, 845, 847, 848, 850, 851, 852, 853, 854, 855, 856, 859, 866, 868, 869, 871, 872, 873, 875, 876, 878, 879, 880, 882, 883, 885, 886, 887, 888, 890, 891, 893, 894, 895, 897, 898, 900, 901, 902, 904, 905, 907, 908, 909, 910, 911, 914, 921, 922, 923, 926, 933, 935, 936, 938, 939, 940, 942, 943, 945, 946, 947, 949, 950, 952, 953, 954, 955, 956, 957, 958, 959, 962, 969, 970, 972, 973, 975, 976, 977, 979, 980, 982, 983, 984, 985, 986, 987, 989, 990, 992, 993, 994, 996, 997, 999, 1000, 1001, 1002, 1004, 1005, 1007, 1008, 1009, 1011, 1012, 1014, 1015, 1016, 1018, 1019, 1021, 1022, 1023, 1025, 1026, 1028, 1029, 1030, 1032, 1033, 1035, 1036, 1037, 1039, 1040, 1042, 1043, 1044, 1045, 1046, 1047, 1049, 1050, 1052, 1053, 1054, 1056, 1057, 1059, 1060, 1061, 1062, 1063, 1064, 1066, 1067, 1069, 1070, 1071, 1072, 1074, 1075, 1077, 1078, 1079, 1081, 1082, 1084, 1085, 1086, 1088, 1089, 1091, 1092, 1093, 1095, 1096, 1098, 1099, 1100, 1102, 1103, 1105, 1106, 1107, 1108, 1109, 1112, 1119, 1120, 1122, 1123, 1125, 1126, 1127, 1128, 1130, 1131, 1133, 1134, 1135, 1137, 1138, 1140, 1141, 1142, 1143, 1145, 1146, 1148, 1149, 1150, 1152, 1153, 1155, 1156, 1157, 1158, 1160, 1161, 1163, 1164, 1165, 1167, 1168, 1170, 1171, 1172, 1173, 1174, 1175, 1176, 1178, 1179, 1181, 1182, 1183, 1185, 1186, 1188, 1189, 1190, 1191, 1192, 1193, 1195, 1196, 1198, 1199, 1200, 1202, 1203, 1205, 1206, 1207, 1208, 1210, 1211, 1213, 1214, 1215, 1217, 1218, 1220, 1221, 1222, 1224, 1225, 1227, 1228, 1229, 1231, 1232, 1234, 1235, 1236, 1238, 1239, 1241, 1242, 1243, 1245, 1246, 1248, 1249, 1250, 1251, 1252, 1253, 1255, 1256, 1258, 1259, 1260, 1261, 1262, 1263, 1266, 1268, 1269, 1271, 1272, 1273, 1275, 1276, 1278, 1279, 1280, 1282, 1283, 1285, 1286, 1287, 1289, 1290, 1292, 1293, 1294, 1296, 1297, 1299, 1300, 1301, 1303, 1304, 1306, 1307]
/-- a written-out part seen in one walk along the heap -/
abbrev hookOf (K : Params → Frag) (e : ∀ P, addrs = (K P).map (·.1)) : Hook := fastHook K addrs e
abbrev LeftK (K : Params → Frag) (e : ∀ P, addrs = (K P).map (·.1)) : Prop := LeftO theProg viewP looseL topX (Hook.obs (hookOf K e)) (Hook.val (hookOf K e)) 22634
theorem holds_both {K : Params → Frag} (e : ∀ P, addrs = (K P).map (·.1)) {d : DefRec} {kwd : List (Str × Expr)}
    (hdef : defOf viewP PySem.Challenge.rw_fc0054_01.row.name = some (d, kwd)) (hp : theProg.theDef PySem.Challenge.rw_fc0054_01.row.name = some (d.params, d.body, d.scope)) (hk : kwWritten? d.params.kwonlyargs d.params.kw_defaults = some kwd)
    (k1 : PySem.Challenge.rw_fc0054_01.row.wellSaid = true) (ok : (chainsOk viewP && opensWell theProg && (frees PySem.Challenge.rw_fc0054_01.row.toRowW && PySem.Challenge.rw_fc0054_01.row.within.isEmpty)) = true) (hb : theProg.bare) (hw : PySem.Challenge.rw_fc0054_01.row.toRowW.promised)
    (both : LeftK K e ∧ WalkFree viewP looseL (XL viewP []) (Hook.says (hookOf K e)) PySem.Challenge.rw_fc0054_01.row.toRowW d kwd) : PySem.Challenge.rw_fc0054_01.row.Holds :=
  holds_free both.1 (Hook.of (hookOf K e)) (Hook.keeps (hookOf K e)) (fun s e => xl_of s (Bool.and_eq_true_iff.mp e).1) XL.keeps hdef hp hk (fun s e => recFacts_of (Bool.and_eq_true_iff.mp e).2) (by rfl) k1 ok hb hw both.2
/-- the law is its row: the looks at the law's words, once -/
theorem law_of_row (h : PySem.Challenge.rw_fc0054_01.row.wellSaid = true → PySem.Challenge.rw_fc0054_01.row.Holds) : PySem.Challenge.rw_fc0054_01.Holds := by
  o_law
  exact h ‹_›
end
end
end Mine
section
open PySem PySem.W PyProof.Rows
namespace Hx
local macro_rules | `(tactic| o_law) => `(tactic| refine Mine.law_of_row fun said => ?_)
local macro_rules | `(tactic| o_head (kHook $K $A $e)) => `(tactic| refine Mine.holds_both (K := $K) (fun P => by kernel_rfl) (by rfl) (by rfl) (by rfl) (by first | assumption | decide +kernel) (by decide +kernel) ⟨rfl, rfl, rfl, rfl, rfl, by decide +kernel⟩ ?hw ?hc)
open_top hd for PySem.Challenge.rw_fc0054_01
theorem walk_off : True := by
  w_top off
  trivial
end Hx
end
namespace Mine
section
open PySem PySem.W PySem.Spec PySem.Calls PyProof.Rows
section
open PySem.Builtin.Int (intBits)

/-- the number that octets spell, the first the heaviest -/
def num (b : Array UInt8) : Nat := b.toList.foldl (fun acc c => acc * 256 + c.toNat) 0
/-- the k lowest octets of a number, the heaviest first -/
def oct (k x : Nat) : Array UInt8 := ((List.range k).map fun i => (x / 256 ^ i % 256).toUInt8).reverse.toArray

@[simp] theorem oct_size (k x : Nat) : (oct k x).size = k := by simp [oct]
theorem num_lt (b : Array UInt8) : num b < 256 ^ b.size := by
  have h : ∀ (l : List UInt8) (a : Nat), l.foldl (fun acc c => acc * 256 + c.toNat) a < (a + 1) * 256 ^ l.length := by
    intro l
    induction l with
    | nil => intro a; simp
    | cons c r ih =>
      intro a
      rw [List.foldl_cons, List.length_cons, Nat.pow_succ]
      refine Nat.lt_of_lt_of_le (ih _) ?_
      have hc := c.toNat_lt
      calc (a * 256 + c.toNat + 1) * 256 ^ r.length ≤ ((a + 1) * 256) * 256 ^ r.length := Nat.mul_le_mul_right _ (by omega)
        _ = (a + 1) * (256 ^ r.length * 256) := by rw [Nat.mul_assoc, Nat.mul_comm 256]
  have := h b.toList 0
  simpa [num] using this

theorem intfold (l : List UInt8) (a : Nat) : l.foldl (fun (acc : Int) (b : UInt8) => acc * 256 + (b.toNat : Int)) (a : Int) = ((l.foldl (fun acc c => acc * 256 + c.toNat) a : Nat) : Int) := by
  induction l generalizing a with
  | nil => rfl
  | cons c r ih =>
    rw [List.foldl_cons, List.foldl_cons, ← ih]
    congr 1

section
variable {prog : Program} {w : World} {M : Model} {A : Around} {E : Value → Shared → Prop} {s : Shared} {K : Frag} {h₀ : Heap} {L : Addr} {m : PySem.Str → Option Value} {news : List (Addr × Obj)}

theorem tree_from {b : Array UInt8} {t u : Tok} {P : Fin → Shared → Prop} (hl : b.size ≤ 1000000) (h : P (.done (.ret (.int (num b) s.toks))) { s with toks := s.toks + 1 }) :
    wpAny M A (Builtin.«int.from_bytes» ⟨[.type "int", .bytes b t, .str (PySem.Str.ofString "big") u], []⟩) P E s := by
  have hline : ¬ (((num b : Nat) : Int).natAbs.log2 ≥ bitsLine) := by
    rw [Int.natAbs_natCast]
    have hb : bitsLine = 134217728 := by first | rfl | decide
    rw [hb]
    by_cases hz : num b = 0
    · rw [hz]; decide
    · have h1 := num_lt b
      have h2 : (256 : Nat) ^ b.size = 2 ^ (8 * b.size) := by rw [Nat.pow_mul]
      rw [h2] at h1
      have h3 := (Nat.log2_lt hz).mpr h1
      omega
  unfold Builtin.«int.from_bytes»
  refine wpAny_bind (wpAny_of_eq (a := true) KFB.type_int ?_)
  refine KFB.if_not rfl ?_
  refine wpAny_bind (wpAny_of_eq (a := true) F.conv_sub_int ?_)
  refine KFB.if_not rfl ?_
  refine wpAny_bind (wpAny_of_eq (a := [some (.bytes b t), some (.str (PySem.Str.ofString "big") u), none]) (by kernel_rfl) ?_)
  refine wpAny_bind (wpAny_of_eq (a := PySem.Str.ofString "big") (by kernel_rfl) ?_)
  refine wpAny_bind (wpAny_of_eq (a := false) rfl ?_)
  refine wpAny_bind (wpAny_of_eq (a := false) (by kernel_rfl) ?_)
  refine wpAny_bind (wpAny_of_eq (a := b) rfl ?_)
  show wpAny _ _ (mkIntGrown (b.toList.foldl (fun (acc : Int) (b : UInt8) => acc * 256 + (b.toNat : Int)) ((0 : Nat) : Int)) >>= fun v => _) _ _ _
  rw [intfold]
  refine wpAny_bind ?_
  unfold mkIntGrown
  rw [if_neg (by exact hline)]
  refine wpAny_mkInt ?_
  refine KFB.if_so (by decide +kernel) ?_
  exact wpAny_bind (wpAny_pure (wpAny_pure h))

theorem from_big {x : Addr} {b : Array UInt8} {t u : Tok} {Q : Value → Shared → Prop} (N : News h₀ L s.heap news) (hm : (x, KFB.bound) ∈ news) (hl : b.size ≤ 1000000)
    (h : ∀ t' k, Q (.int (num b) t') { s with toks := k }) : wpAny (model prog w) A (call (.ref x) [.bytes b t, .str (PySem.Str.ofString "big") u]) Q E s :=
  KFB.call_of (KFB.at_of N hm) (fun z => tree_from hl z) (h _ _)

theorem byte_shift (X i : Nat) : ((X >>> (8 * i) % 256).toUInt8) = (X / 256 ^ i % 256).toUInt8 := by
  rw [Nat.shiftRight_eq_div_pow, Nat.pow_mul]

theorem low_eq {n X : Nat} (hX : X < 256 ^ n) :
    (List.range (min n (intBits (X : Int) / 8 + 1))).map (fun i => ((((X : Int) % (256 ^ (min n (intBits (X : Int) / 8 + 1)) : Int)).toNat >>> (8 * i)) % 256).toUInt8) ++ List.replicate (n - min n (intBits (X : Int) / 8 + 1)) (if (X : Int) < 0 then 255 else 0)
      = (List.range n).map fun i => (X / 256 ^ i % 256).toUInt8 := by
  generalize ho : min n (intBits (X : Int) / 8 + 1) = own
  have hle : own ≤ n := by omega
  have hown : X < 256 ^ own := by
    by_cases hc : n ≤ intBits (X : Int) / 8 + 1
    · have e : own = n := by omega
      rw [e]; exact hX
    · have hb : intBits (X : Int) ≤ 8 * own := by omega
      have hn := intBits_le_iff.mp hb
      rw [Nat.pow_mul] at hn
      exact hn
  have hm : (((X : Int) % (256 ^ own : Int)).toNat) = X := by
    have e : ((256 : Int) ^ own) = ((256 ^ own : Nat) : Int) := by rw [Int.natCast_pow]; rfl
    rw [e, ← Int.natCast_emod, Nat.mod_eq_of_lt hown, Int.toNat_natCast]
  rw [hm, if_neg (by omega)]
  refine List.ext_getElem (by simp; omega) fun i h1 h2 => ?_
  have hin : i < n := by simpa using h2
  by_cases hi : i < own
  · rw [List.getElem_append_left (by simpa using hi)]
    simp only [List.getElem_map, List.getElem_range, byte_shift]
  · rw [List.getElem_append_right (by simpa using Nat.le_of_not_lt hi), List.getElem_replicate]
    have hz : X / 256 ^ i = 0 := Nat.div_eq_of_lt (Nat.lt_of_lt_of_le hown (Nat.pow_le_pow_right (by decide) (Nat.le_of_not_lt hi)))
    simp [hz]

theorem to_big {X k : Nat} {t u v : Tok} {Q : Value → Shared → Prop} (hk : k ≤ 1000000) (hX : X < 256 ^ k) (h : ∀ t' k', Q (.bytes (oct k X) t') { s with toks := k' }) :
    wpAny (model prog w) A (call (.builtin "int.to_bytes") [.int (X : Int) t, .int (k : Int) u, .str (PySem.Str.ofString "big") v]) Q E s := by
  refine wpAny_call_entry KTBy.slot (typeIs_int s (X : Int) t) KTBy.entry ?_ (KTBy.args _ _ _)
  have hb : intBits (X : Int) ≤ 8 * k := intBits_le_iff.mpr (by rw [Nat.pow_mul]; simpa using hX)
  show wpAny _ _ (Builtin.Int.intOfSelf (.int (X : Int) t) >>= fun y => _) _ _ s
  refine wpAny_bind (wpAny_of_eq (a := (X : Int)) rfl ?_)
  show wpAny _ _ (Builtin.Int.intBindNamed "to_bytes" ["length", "byteorder", "signed"] 0 2 [.int (k : Int) u, .str (PySem.Str.ofString "big") v] [] >>= fun l => _) _ _ s
  refine wpAny_bind (wpAny_of_eq (a := [some (.int (k : Int) u), some (.str (PySem.Str.ofString "big") v), none]) (by kernel_rfl) ?_)
  show wpAny _ _ (Builtin.Int.intIndex "int.to_bytes" (.int (k : Int) u) >>= fun n => _) _ _ s
  refine wpAny_bind (wpAny_of_eq (a := (k : Int)) rfl ?_)
  refine KFB.if_not (by show (decide ((k : Int) < -(2 ^ 63 : Int)) || decide ((k : Int) ≥ 2 ^ 63)) = false; rw [decide_eq_false (by omega), decide_eq_false (by omega)]; rfl) ?_
  refine wpAny_bind (wpAny_of_eq (a := PySem.Str.ofString "big") (by kernel_rfl) ?_)
  refine wpAny_bind (wpAny_of_eq (a := false) rfl ?_)
  refine wpAny_bind (wpAny_of_eq (a := false) (by kernel_rfl) ?_)
  refine wpAny_ite_false (decide_eq_false (show ¬ ((k : Int) < 0) by omega)) ?_
  refine wpAny_ite_false (decide_eq_false (show ¬ ((k : Int) > 2 ^ 63 - 1 - 33) by omega)) ?_
  refine wpAny_ite_false (decide_eq_false (show ¬ ((k : Int) > (sizeLine : Int)) by rw [sizeLine_eq]; omega)) ?_
  refine KFB.if_not (by show (decide ((X : Int) < 0) && !false) = false; rw [decide_eq_false (by omega)]; rfl) ?_
  refine KFB.if_not (by show (_ && decide ((intBits (X : Int) : Int) > 8 * (k : Int))) = false; rw [decide_eq_false (by omega), Bool.and_false]) ?_
  have e : (KTBy.low (X : Int) (Int.toNat (k : Int))).reverse.toArray = oct k X := by
    unfold KTBy.low oct
    rw [Int.toNat_natCast, low_eq hX]
  refine wpAny_bind (wpAny_mkBytes (wpAny_pure ⟨_, rfl, ?_⟩) (by show (List.reverse (KTBy.low (X : Int) (Int.toNat (k : Int)))).length ≤ sizeLine; rw [List.length_reverse, KTBy.low_length, Int.toNat_natCast, sizeLine_eq]; omega))
  have h' := h s.toks (s.toks + 1)
  rw [← e] at h'
  exact h'
end
open PySem.Builtin.Int (intBits)

/-- an int of at most k bits -/
def Sm (k : Nat) (x : Int) : Prop := x.natAbs < 2 ^ k
theorem Sm.mono {k l : Nat} {x : Int} (h : Sm k x) (hl : k ≤ l) : Sm l x := Nat.lt_of_lt_of_le h (Nat.pow_le_pow_right (by decide) hl)
theorem Sm.mul {k l : Nat} {x y : Int} (h : Sm k x) (h' : Sm l y) : Sm (k + l) (x * y) := by
  unfold Sm at *
  rw [Int.natAbs_mul, Nat.pow_add]
  exact Nat.mul_lt_mul_of_lt_of_le h (Nat.le_of_lt h') (Nat.two_pow_pos _)
theorem Sm.nat {k n : Nat} (h : n < 2 ^ k) : Sm k (n : Int) := by unfold Sm; rw [Int.natAbs_natCast]; exact h
theorem Sm.num {b : Array UInt8} {n : Nat} (h : b.size ≤ n) : Sm (8 * n) (num b : Int) := by
  refine Sm.nat (Nat.lt_of_lt_of_le (num_lt b) ?_)
  rw [Nat.pow_mul]
  exact Nat.pow_le_pow_right (by decide) h
theorem Sm.mulOk {k l : Nat} {x y : Int} (h : Sm k x) (h' : Sm l y) (hk : k + l ≤ 100000000) : IntMulOk x y := by
  have h1 : intBits x ≤ k := intBits_le_iff.mpr h
  have h2 : intBits y ≤ l := intBits_le_iff.mpr h'
  have h3 : Builtin.Int.intTooBig (intBits x + intBits y) = false := by
    unfold Builtin.Int.intTooBig
    have hb : bitsLine = 134217728 := by first | rfl | decide
    simp only [hb, decide_eq_false_iff_not]
    omega
  unfold IntMulOk
  rw [h3, Bool.and_false]
  exact Bool.false_ne_true
section
variable {prog : Program} {w : World} {A : Around} {E : Value → Shared → Prop} {s : Shared}
theorem to_bigI {x : Int} {k : Nat} {t u v : Tok} {Q : Value → Shared → Prop} (hk : k ≤ 1000000) (h0 : 0 ≤ x) (h1 : x < ((256 ^ k : Nat) : Int)) (h : ∀ t' k', Q (.bytes (oct k x.toNat) t') { s with toks := k' }) :
    wpAny (model prog w) A (call (.builtin "int.to_bytes") [.int x t, .int (k : Int) u, .str (PySem.Str.ofString "big") v]) Q E s := by
  obtain ⟨X, rfl⟩ := Int.eq_ofNat_of_zero_le h0
  exact to_big hk (Int.ofNat_lt.mp h1) h
end
end
section
/-- a halt of the walk: what stands in it is done by hand -/
def Stop (P : Prop) : Prop := P
theorem stopHere {P : Prop} (h : Stop P) : P := h

/-- the base-58 digits of a number, the lowest first -/
def digs (n : Nat) : List Nat := if h : n = 0 then [] else n % 58 :: digs (n / 58)
termination_by n
decreasing_by exact Nat.div_lt_self (by omega) (by decide)
theorem digs_zero : digs 0 = [] := by unfold digs; simp
theorem digs_pos {n : Nat} (h : 0 < n) : digs n = n % 58 :: digs (n / 58) := by
  rw [digs]
  simp [Nat.ne_of_gt h]
theorem digs_len : ∀ (k n : Nat), n < 256 ^ k → (digs n).length ≤ 2 * k
  | 0, n, h => by
    have : n = 0 := by simpa using h
    subst this
    simp [digs_zero]
  | k + 1, n, h => by
    by_cases h0 : n = 0
    · subst h0; simp [digs_zero]
    · rw [digs_pos (by omega), List.length_cons]
      by_cases h1 : n / 58 = 0
      · rw [h1, digs_zero]; simp only [List.length_nil]; omega
      · rw [digs_pos (by omega), List.length_cons]
        have := digs_len k (n / 58 / 58) (by
          rw [Nat.div_div_eq_div_mul]
          rw [Nat.pow_succ] at h
          exact Nat.div_lt_of_lt_mul (by omega))
        omega

/-- the signs of base 58 -/
def B58 : PySem.Str := PySem.Str.ofString "123456789ABCDEFGHJKLMNPQRSTUVWXYZabcdefghijkmnopqrstuvwxyz"
/-- the sign of a digit -/
def sign58 (r : Nat) : PySem.Str := ⟨#[B58.cps.getD r 0]⟩

theorem item58 (n : Nat) : PySem.Txt.item (PySem.Str.ofString "123456789ABCDEFGHJKLMNPQRSTUVWXYZabcdefghijkmnopqrstuvwxyz") ((n : Int).fmod 58) = sign58 (n % 58) := by
  have e : (n : Int).fmod 58 = ((n % 58 : Nat) : Int) := by
    rw [Int.fmod_eq_emod_of_nonneg _ (by omega)]
    omega
  rw [e]
  have h : ∀ r : Nat, r < 58 → PySem.Txt.item B58 (r : Int) = sign58 r := by decide +kernel
  exact h _ (Nat.mod_lt _ (by decide))
theorem sign58_len (r : Nat) : (sign58 r).length = 1 := rfl
theorem carried_one {its : List Value} {ds : List Nat} {r : Nat} {t : Tok} (h : CarriedAll its (ds.map fun a => PyData.str (sign58 a))) : CarriedAll (its ++ [.str (sign58 r) t]) ((ds ++ [r]).map fun a => PyData.str (sign58 a)) := by
  rw [List.map_append]
  exact h.appendLM (.cons (.str _ _) .nil)
theorem carried_reverse : ∀ {its : List Value} {ds : List Nat}, CarriedAll its (ds.map fun a => PyData.str (sign58 a)) → CarriedAll its.reverse (ds.reverse.map fun a => PyData.str (sign58 a))
  | [], [], _ => .nil
  | v :: vs, d :: ds, .cons h r => by
    rw [List.reverse_cons, List.reverse_cons, List.map_append]
    exact (carried_reverse r).appendLM (.cons h .nil)

theorem allLt_ne {d : Addr} : ∀ {l : List (Addr × Obj)}, AllLt d l → ∀ p ∈ l, p.1 ≠ d
  | [], _, _, h => nomatch h
  | q :: r, h, p, hp => by
    rcases List.mem_cons.mp hp with rfl | hp
    · exact Nat.ne_of_lt h.1
    · exact allLt_ne h.2 p hp
theorem allLt_ne' {d : Addr} {l : List (Addr × Obj)} (h : ∀ p ∈ l, p.1 < d) : ∀ p ∈ l, p.1 ≠ d := fun p hp => Nat.ne_of_lt (h p hp)

theorem fdiv58 (n : Nat) : (n : Int).fdiv 58 = ((n / 58 : Nat) : Int) := by
  rw [Int.fdiv_eq_ediv_of_nonneg _ (by omega)]
  omega

/-- how many octets ahead are nought -/
def lead (b : Array UInt8) : Nat := (b.toList.takeWhile (· == 0)).length
theorem bInts_eq (b : Array UInt8) : KBw.bInts b = b.toList.map fun c => ((c.toNat : Nat) : Int) := rfl
theorem takeWhile_len {α : Type} (f : α → Bool) : ∀ (l pre post : List α) (x : α), l = pre ++ x :: post → (∀ y ∈ pre, f y = true) → f x = false → (l.takeWhile f).length = pre.length
  | _, [], post, x, rfl, _, h => by simp [List.takeWhile_cons, h]
  | _, y :: r, post, x, rfl, h1, h2 => by
    rw [List.cons_append, List.takeWhile_cons, if_pos (h1 y (List.mem_cons_self ..)), List.length_cons, List.length_cons]
    exact congrArg (· + 1) (takeWhile_len f _ r post x rfl (fun z hz => h1 z (List.mem_cons_of_mem _ hz)) h2)
theorem lead_map (b : Array UInt8) : lead b = ((KBw.bInts b).takeWhile (· == 0)).length := by
  rw [bInts_eq, List.takeWhile_map, List.length_map]
  unfold lead
  congr 2
  funext c
  have h : (c == 0) = (((c.toNat : Nat) : Int) == 0) := by
    rw [Bool.eq_iff_iff]
    simp only [beq_iff_eq]
    constructor
    · intro h; rw [h]; rfl
    · intro h
      have : c.toNat = 0 := by omega
      exact UInt8.toNat_inj.mp this
  exact h
theorem lead_at {b : Array UInt8} {pre post : List Int} {n : Int} (h : KBw.bInts b = pre ++ n :: post) (h1 : ∀ k ∈ pre, k = 0) (h2 : ¬ n = 0) : lead b = pre.length := by
  rw [lead_map]
  exact takeWhile_len _ _ _ _ _ h (fun y hy => by rw [h1 y hy]; rfl) (by simpa using h2)
theorem lead_all {b : Array UInt8} (h1 : ∀ k ∈ KBw.bInts b, k = 0) : lead b = (KBw.bInts b).length := by
  rw [lead_map]
  have : ∀ l : List Int, (∀ k ∈ l, k = 0) → l.takeWhile (· == 0) = l := by
    intro l
    induction l with
    | nil => intro _; rfl
    | cons x r ih =>
      intro h
      rw [List.takeWhile_cons, if_pos (by rw [h x (List.mem_cons_self ..)]; rfl), ih fun k hk => h k (List.mem_cons_of_mem _ hk)]
  rw [this _ h1]
theorem lead_le (b : Array UInt8) : lead b ≤ b.size := by
  unfold lead
  have := List.takeWhile_sublist (fun x : UInt8 => x == 0) (l := b.toList)
  simpa using this.length_le
end
section
/-- k signs '1' -/
def ones (k : Nat) : PySem.Str := ⟨Array.replicate k 49⟩
@[simp] theorem ones_len (k : Nat) : (ones k).length = k := by simp [ones, PySem.Str.length]
theorem fold_ones (k : Nat) (a : Array Nat) : (List.replicate k (#[49] : Array Nat)).foldl (· ++ ·) a = a ++ Array.replicate k 49 := by
  induction k generalizing a with
  | zero => simp
  | succ k ih =>
    rw [List.replicate_succ, List.foldl_cons, ih, Array.append_assoc]
    congr 1
    rw [Array.replicate_succ']
theorem mul_ones (k : Nat) : PySem.Txt.mul (PySem.Txt.item (PySem.Str.ofString "123456789ABCDEFGHJKLMNPQRSTUVWXYZabcdefghijkmnopqrstuvwxyz") 0) (k : Int) = ones k := by
  have e : PySem.Txt.item (PySem.Str.ofString "123456789ABCDEFGHJKLMNPQRSTUVWXYZabcdefghijkmnopqrstuvwxyz") 0 = ⟨#[49]⟩ := by decide +kernel
  rw [e]
  unfold PySem.Txt.mul
  by_cases h0 : k = 0
  · subst h0; rfl
  · rw [if_neg (by omega)]
    by_cases h1 : k = 1
    · subst h1; rfl
    · have : (((k : Int) == 1) || (PySem.Str.length ⟨#[49]⟩ == 0)) = false := by
        have : ((k : Int) == 1) = false := by simpa using (by omega : ¬ (k : Int) = 1)
        rw [this]; rfl
      rw [this]
      simp only [Bool.false_eq_true, if_false, Int.toNat_natCast]
      unfold ones
      rw [fold_ones]
      simp
theorem mulok_ones {x : PySem.Str} (hx : x.length = 1) {k : Nat} (hk : k ≤ 100000) : MulOk x (k : Int) := by
  refine ⟨?_, fun _ _ => ?_, fun _ _ => ?_⟩
  · rw [decide_eq_false (by omega), decide_eq_false (by omega)]; rfl
  · rw [hx]
    have h1 : (1 : Int) ≤ (2 ^ 63 - 1) / (k : Int) ∨ (k : Int) = 0 := by
      by_cases h0 : k = 0
      · right; omega
      · left
        exact Int.le_ediv_of_mul_le (by omega) (by omega)
    rcases h1 with h1 | h1
    · omega
    · rw [h1]; omega
  · rw [hx, Nat.one_mul, Int.toNat_natCast]
    unfold Builtin.Str.tooLong
    rw [sizeLine_eq]
    exact decide_eq_false (by omega)
/-- the text that base-58 digits spell -/
def txt58 (ds : List Nat) : PySem.Str := ⟨(ds.map fun r => B58.cps.getD r 0).toArray⟩
@[simp] theorem txt58_len (ds : List Nat) : (txt58 ds).length = ds.length := by simp [txt58, PySem.Str.length]
theorem join58 (ds : List Nat) : PySem.Txt.join (PySem.Str.ofString "") (ds.map sign58) = txt58 ds := by
  show Builtin.Str.glued (PySem.Str.ofString "") (ds.map sign58) = _
  rw [StrLaws.glued_eq_join]
  induction ds with
  | nil => rfl
  | cons d r ih =>
    cases r with
    | nil => rfl
    | cons e r' =>
      rw [List.map_cons, List.map_cons]
      rw [List.map_cons] at ih
      show sign58 d ++ PySem.Str.ofString "" ++ PySem.Str.join _ (sign58 e :: r'.map sign58) = _
      rw [ih]
      refine PySem.Str.ext' ?_
      rw [PySem.Str.cps_append, PySem.Str.cps_append]
      have e0 : (PySem.Str.ofString "").cps = #[] := by decide
      rw [e0]
      simp [txt58, sign58]
/-- what base58.encode gives -/
def enc (b : Array UInt8) : PySem.Str := ones (lead b) ++ txt58 (digs (num b)).reverse
end
section
def first4 (b : Array UInt8) : Array UInt8 := (b.toList.take 4).toArray
def but4 (b : Array UInt8) : Array UInt8 := (b.toList.take (b.size - 4)).toArray
def last4 (b : Array UInt8) : Array UInt8 := (b.toList.drop (b.size - 4)).toArray
def first1 (b : Array UInt8) : Array UInt8 := (b.toList.take 1).toArray
def mid32 (b : Array UInt8) : Array UInt8 := ((b.toList.drop 1).take 32).toArray
@[simp] theorem first4_size (b : Array UInt8) : (first4 b).size = min 4 b.size := by simp [first4]
@[simp] theorem but4_size (b : Array UInt8) : (but4 b).size = b.size - 4 := by simp [but4]
@[simp] theorem last4_size (b : Array UInt8) : (last4 b).size = min 4 b.size := by simp [last4]; omega
@[simp] theorem first1_size (b : Array UInt8) : (first1 b).size = min 1 b.size := by simp [first1]
@[simp] theorem mid32_size (b : Array UInt8) : (mid32 b).size = min 32 (b.size - 1) := by simp [mid32]
theorem clip_0 (n : Nat) : clipAt n 0 = 0 := by unfold clipAt; omega
theorem clip_1 (n : Nat) : clipAt n 1 = min 1 n := by unfold clipAt; simp; omega
theorem clip_4 (n : Nat) : clipAt n 4 = min 4 n := by unfold clipAt; simp; omega
theorem clip_33 (n : Nat) : clipAt n 33 = min 33 n := by unfold clipAt; simp; omega
theorem picked_04 (b : Array UInt8) : KBy.picked b (some 0) (some 4) = first4 b := by
  rw [KBc.picked_eq]
  simp only [Option.elim, clip_0, clip_4, first4, Nat.sub_zero, List.drop_zero]
  congr 1
  rw [List.take_eq_take_iff]
  simp
theorem picked_n4 (b : Array UInt8) : KBy.picked b none (some 4) = first4 b := by
  rw [KBc.picked_eq]
  simp only [Option.elim, clip_4, first4, Nat.sub_zero, List.drop_zero]
  congr 1
  rw [List.take_eq_take_iff]
  simp
theorem clip_m4 (n : Nat) : clipAt n (-4) = n - 4 := by
  unfold clipAt
  simp
  omega
theorem picked_nm4 (b : Array UInt8) : KBy.picked b none (some (-4)) = but4 b := by
  rw [KBc.picked_eq]
  simp only [Option.elim, clip_m4, but4, Nat.sub_zero, List.drop_zero]
theorem picked_m4n (b : Array UInt8) : KBy.picked b (some (-4)) none = last4 b := by
  rw [KBc.picked_eq]
  simp only [Option.elim, clip_m4, last4]
  congr 1
  rw [List.take_of_length_le]
  simp
theorem picked_n1 (b : Array UInt8) : KBy.picked b none (some 1) = first1 b := by
  rw [KBc.picked_eq]
  simp only [Option.elim, clip_1, first1, Nat.sub_zero, List.drop_zero]
  congr 1
  rw [List.take_eq_take_iff]
  simp
theorem picked_1_33 (b : Array UInt8) : KBy.picked b (some 1) (some 33) = mid32 b := by
  rw [KBc.picked_eq]
  simp only [Option.elim, clip_1, clip_33, mid32]
  congr 1
  by_cases h : 1 ≤ b.size
  · rw [show min 1 b.size = 1 by omega, List.take_eq_take_iff]
    simp
    omega
  · have : b.toList = [] := by
      apply List.eq_nil_of_length_eq_zero
      rw [Array.length_toList]
      omega
    rw [this]; simp
end
section
section
open Builtin
set_option maxRecDepth 100000
theorem slot_bytes_repr : Slot "bytes" "__repr__" "bytes.__repr__" :=
  .of (owner := "bytes") (n := "__repr__") (by rw [typeLookup_type, builtinLookup_eq_fast]; kernel_rfl) (by decide +kernel) (by decide +kernel) (by decide +kernel)
    (by first | exact .inl (by decide +kernel) | exact .inr (by decide +kernel)) (by rw [isSubtype_type]; kernel_rfl)
theorem entry_bytes_repr : entryFor table "bytes.__repr__" = some Builtin.«bytes.__repr__» := entryFor_of_tree (by kernel_rfl)
theorem args_bytes_repr (a : Value) : argsOk "bytes.__repr__" ⟨[a], []⟩ := by unfold argsOk; kernel_rfl
theorem fold_app_len (f : UInt8 → Array Nat) (k : Nat) (hf : ∀ c, (f c).size ≤ k) : ∀ (l : List UInt8) (a : Array Nat), (l.foldl (fun acc c => acc ++ f c) a).size ≤ a.size + k * l.length
  | [], a => by simp
  | c :: r, a => by
    rw [List.foldl_cons, List.length_cons]
    have h1 := fold_app_len f k hf r (a ++ f c)
    have h2 := hf c
    rw [Array.size_append] at h1
    have : k * (r.length + 1) = k * r.length + k := Nat.mul_succ _ _
    omega
theorem literal_len (b : Array UInt8) : (Bytes.literal b).length ≤ 4 * b.size + 3 := by
  unfold Bytes.literal
  dsimp only
  show (Array.push _ _).size ≤ _
  rw [Array.size_push, ← Array.foldl_toList]
  refine Nat.le_trans (Nat.succ_le_succ (fold_app_len _ 4 ?_ _ _)) ?_
  · intro c
    (repeat' split) <;> simp
  · simp
    omega
section
variable {prog : Program} {w : World} {A : Around} {E : Value → Shared → Prop} {s : Shared}
theorem repr_under_plain {base : Nat} {v : Value} {T id : String} {Q : Value → Shared → Prop} (hby : ([v] : List Value).any Value.onHeap = false) (hT : s.TypeIs v T) (h : SlotG T (PySem.Str.ofString "__repr__") id) (hno : reprUnder? (.builtin id) = none)
    (hc : wpAny (model prog w) A (call (.builtin id) [v]) (fun v s' => (∃ x u, v = .str x u) ∧ Q v s') E s) : wpAny (model prog w) A (pyReprObjUnder base v) Q E s := by
  unfold pyReprObjUnder pyReprObjBy
  refine wpAny_bind (wpAny_cRoomFor_byValue hby ?_)
  refine wpAny_bind (wpAny_specialOf (name := PySem.Str.ofString "__repr__") hT h.lookup ?_)
  refine wpAny_bind (wpAny_callSpecialIfBoundBy?_slotG (name := PySem.Str.ofString "__repr__") hT h ?_)
  simp only [hno]
  refine wpAny_mono hc (fun v s' hv => ?_) fun _ _ x => x
  obtain ⟨⟨x, u, rfl⟩, hq⟩ := hv
  exact wpAny_bind (wpAny_isInstance (T := "str") (b := true) rfl isSubtype_str_str (wpAny_pure hq))
theorem repr_under_str {base : Nat} {x : PySem.Str} {t : Tok} {Q : Value → Shared → Prop} (hsz : (reprText x).length ≤ 16777216) (h : ∀ t' k, Q (.str (reprText x) t') { s with toks := k }) : wpAny (model prog w) A (pyReprObjUnder base (.str x t)) Q E s := by
  have hsz' : (reprText x).length ≤ sizeLine := by rw [sizeLine_eq]; exact hsz
  refine repr_under_plain rfl (typeIs_str s x t) F.slot_str_repr.toG rfl ?_
  exact call_gives F.slot_str_repr (typeIs_str s x t) F.entry_str_repr (F.args_str_repr_1 _) (gives_str_repr x t) ⟨hsz', ⟨_, _, rfl⟩, h _ _⟩
theorem gives_bytes_repr (b : Array UInt8) (t : Tok) (hb : b.size ≤ 1000000) : Gives (Builtin.«bytes.__repr__» ⟨[.bytes b t], []⟩) (.str (Bytes.literal b)) := by
  have hl : ¬ (Bytes.tooLong (4 * b.size + 3 + 0) && Bytes.tooLong (Bytes.literalLength b false + 0)) = true := by
    rw [KBy.tooLong_not (by omega)]
    exact Bool.false_ne_true
  refine .of_eq ?_
  show (Bytes.literalAsked b >>= fun x => retStr x) = _
  unfold Bytes.literalAsked
  rw [if_neg hl]
  rfl
theorem repr_under_bytes {base : Nat} {b : Array UInt8} {t : Tok} {Q : Value → Shared → Prop} (hb : b.size ≤ 1000000) (h : ∀ t' k, Q (.str (Bytes.literal b) t') { s with toks := k }) : wpAny (model prog w) A (pyReprObjUnder base (.bytes b t)) Q E s := by
  have hsz' : (Bytes.literal b).length ≤ sizeLine := by
    rw [sizeLine_eq]
    have := literal_len b
    omega
  refine repr_under_plain rfl (typeIs_bytes s b t) slot_bytes_repr.toG rfl ?_
  exact call_gives slot_bytes_repr (typeIs_bytes s b t) entry_bytes_repr (args_bytes_repr _) (gives_bytes_repr b t hb) ⟨hsz', ⟨_, _, rfl⟩, h _ _⟩
local macro_rules | `(tactic| kpc_conv) => `(tactic| (refine wpAny_bind ?_; (repeat kpc_if); refine repr_under_str (by omega) ?_; intro _ _; refine wpAny_bind (wpAny_of_eq (a := some _) rfl ?_)))
local macro_rules | `(tactic| kpt_conv) => `(tactic| (refine wpAny_bind ?_; (repeat kpc_if); refine repr_under_bytes (by omega) ?_; intro _ _; refine wpAny_bind (wpAny_of_eq (a := some _) rfl ?_)))
theorem meets_r_str {X : PySem.Str} {y : PySem.Str} {t u : Tok} (hX : PySem.Str.ofString "Character %r is not a valid base58 character" = X) (hy : (reprText y).length ≤ 1000) :
    ∃ T, Meets («str.__mod__» ⟨[.str X t, .str y u], []⟩) (fun _ R s => ∀ t' k, R (.ok (.ret (.str T t'))) { s with toks := k }) := by
  refine ⟨PySem.Str.ofString "Character " ++ reprText y ++ PySem.Str.ofString " is not a valid base58 character", ?_⟩
  revert hX
  intro hX
  have hX' : X = ⟨(PySem.Str.ofString "Character %r is not a valid base58 character").cps⟩ := by rw [← hX]
  rw [show (PySem.Str.ofString "Character %r is not a valid base58 character").cps = #[67, 104, 97, 114, 97, 99, 116, 101, 114, 32, 37, 114, 32, 105, 115, 32, 110, 111, 116, 32, 97, 32, 118, 97, 108, 105, 100, 32, 98, 97, 115, 101, 53, 56, 32, 99, 104, 97, 114, 97, 99, 116, 101, 114] by decide +kernel] at hX'
  subst hX'
  apply KPc.meets_of
  intro _ _ _ _ _ _ _
  rw [KPc.entry_is_s]
  unfold Builtin.Str.percentFormat
  refine wpAny_bind (wpAny_isInstance (typeIs_str _ _ _) F.sub_str_tuple ?_)
  refine wpAny_bind (wpAny_of_eq (a := some _) rfl ?_)
  refine wpAny_bind (KPc.wp_fills_str ?_)
  intro _
  kpc_if
  refine wpAny_bind (wpAny_pure ?_)
  refine wpAny_bind ?_
  rw [KPc.range_list]
  refine KPc.start ?_
  intro _ _
  k_dflt (refine KPc.turn ?_; kpc_check; (repeat kpc_if); (refine wpAny_pure ?_; kpc_piece))
  k_dflt (refine KPc.turn ?_; kpc_check; (repeat kpc_if); (refine wpAny_bind ?_; refine wpAny_holding ?_; (repeat kpc_if); kpc_conv; refine wpAny_pure ?_; refine wpAny_pure ?_; refine KPc.after_str (by kpc_g) (by kpc_len) (by kpc_obj) ?_; intro _ _))
  k_dflt (refine KPc.turn ?_; kpc_check; (repeat kpc_if); (refine wpAny_pure ?_; kpc_piece))
  k_dflt (refine KPc.turn ?_; kpc_check; (repeat kpc_if); refine wpAny_pure ?_; kpc_if; refine KPc.finish_ok (by kpc_g) (by decide +kernel) (by exact rfl) ?_; assumption)
theorem mod_r_str {y : PySem.Str} {t u : Tok} {Q : Value → Shared → Prop} (hy : (reprText y).length ≤ 1000) (h : ∀ T t' k, Q (.str T t') { s with toks := k }) :
    wpAny (model prog w) A (binaryOp .Mod (.str (PySem.Str.ofString "Character %r is not a valid base58 character") t) (.str y u)) Q E s := by
  obtain ⟨T, hT⟩ := meets_r_str (t := t) (u := u) rfl hy
  exact binaryOp_meets (T := "str") (op := .Mod) (typeIs_str s _ t) (typeIs_str s y u) F.fills_str_mod F.slot_str_mod F.entry_str_mod (F.args_str_mod_2 _ _) hT (fun t' k => ⟨(fun e => nomatch e), h T t' k⟩)
theorem meets_r_two {X : PySem.Str} {x y : Array UInt8} {t t1 t2 : Tok} {a : Addr} (hX : PySem.Str.ofString "Checksum mismatch: expected %r, calculated %r" = X) (hx : x.size ≤ 100) (hy : y.size ≤ 100) :
    ∃ T, Meets («str.__mod__» ⟨[.str X t, .ref a], []⟩) (fun _ R s => IsTup s.heap a #[.bytes x t1, .bytes y t2] ∧ ∀ t' k, R (.ok (.ret (.str T t'))) { s with toks := k }) := by
  refine ⟨PySem.Str.ofString "Checksum mismatch: expected " ++ Bytes.literal x ++ PySem.Str.ofString ", calculated " ++ Bytes.literal y, ?_⟩
  have hX' : X = ⟨(PySem.Str.ofString "Checksum mismatch: expected %r, calculated %r").cps⟩ := by rw [← hX]
  rw [show (PySem.Str.ofString "Checksum mismatch: expected %r, calculated %r").cps = #[67, 104, 101, 99, 107, 115, 117, 109, 32, 109, 105, 115, 109, 97, 116, 99, 104, 58, 32, 101, 120, 112, 101, 99, 116, 101, 100, 32, 37, 114, 44, 32, 99, 97, 108, 99, 117, 108, 97, 116, 101, 100, 32, 37, 114] by decide +kernel] at hX'
  subst hX'
  have hx' : (Bytes.literal x).length ≤ 1000 := Nat.le_trans (literal_len x) (by omega)
  have hy' : (Bytes.literal y).length ≤ 1000 := Nat.le_trans (literal_len y) (by omega)
  apply KPt.meets_tup
  intro _ _ _ _ _ _ kptH _
  obtain ⟨kptO, kptG, kptC, kptN, kptD⟩ := kptH
  rw [KPt.entry_is_r]
  unfold Builtin.Str.percentFormat
  refine wpAny_bind (wpAny_isInstance (T := "tuple") ⟨kptO, kptG, kptC⟩ KPt.sub_tt ?_)
  refine wpAny_bind (KPt.asStr_ref kptG kptD ?_)
  refine wpAny_bind (KPt.fills_ref ⟨kptO, kptG, kptC⟩ ?_)
  intro _
  kpc_if
  refine wpAny_bind (wpAny_seqItems kptG kptD ?_)
  refine wpAny_bind (wpAny_pure ?_)
  refine wpAny_bind ?_
  rw [KPc.range_list]
  refine KPc.start ?_
  intro _ _
  k_dflt (refine KPc.turn ?_; kpc_check; (repeat kpc_if); (refine wpAny_pure ?_; kpc_piece))
  k_dflt (refine KPc.turn ?_; kpc_check; (repeat kpc_if); (refine wpAny_bind ?_; refine wpAny_holding ?_; (repeat kpc_if); kpt_conv; refine wpAny_pure ?_; refine wpAny_pure ?_; refine KPc.after_str (by kpc_g) hx' (by kpc_obj) ?_; intro _ _))
  k_dflt (refine KPc.turn ?_; kpc_check; (repeat kpc_if); (refine wpAny_pure ?_; kpc_piece))
  k_dflt (refine KPc.turn ?_; kpc_check; (repeat kpc_if); (refine wpAny_bind ?_; refine wpAny_holding ?_; (repeat kpc_if); kpt_conv; refine wpAny_pure ?_; refine wpAny_pure ?_; refine KPc.after_str (by kpc_g) hy' (by kpc_obj) ?_; intro _ _))
  k_dflt (refine KPc.turn ?_; kpc_check; (repeat kpc_if); refine wpAny_pure ?_; kpc_if; refine KPc.finish_ok (by kpc_g) (by decide +kernel) (by exact rfl) ?_; assumption)
theorem mod_r_two {x y : Array UInt8} {t t1 t2 : Tok} {a : Addr} {n : Nat} {h₀ : Heap} {L : Addr} {news : List (Addr × Obj)} {Q : Value → Shared → Prop} (N : News h₀ L s.heap news) (ha : (a, ({ cls := .type "tuple", data := .seq #[.bytes x t1, .bytes y t2] n } : Obj)) ∈ news) (hx : x.size ≤ 100) (hy : y.size ≤ 100) (h : ∀ T t' k, Q (.str T t') { s with toks := k }) :
    wpAny (model prog w) A (binaryOp .Mod (.str (PySem.Str.ofString "Checksum mismatch: expected %r, calculated %r") t) (.ref a)) Q E s := by
  obtain ⟨T, hT⟩ := meets_r_two (t := t) (t1 := t1) (t2 := t2) (a := a) rfl hx hy
  exact KPt.mod_tuple N ha rfl hT (h T)
end
end
end
section
/-- where `int.from_bytes` is found: seen once -/
theorem fb_is (P : Params) : findCls (Hx.hd.heap_1 P) (.type "int") (.type "type") (PySem.Str.ofString "from_bytes") = some (.get (.builtin "classmethod_descriptor.__get__") (.builtin "int.from_bytes") .none (.type "int")) := by kernel_rfl
end
local macro_rules | `(tactic| k_room) => `(tactic| ktr_room)
local macro_rules | `(tactic| k_units) => `(tactic| ktr_units)
local macro_rules | `(tactic| walk_at "binaryOp Add bytes bytes") => `(tactic| (k_here; (with_reducible show wpAny _ _ (binaryOp Operator.Add (Value.bytes _ _) (Value.bytes _ _)) _ _ _); (refine KBy.add_bytes (by first | omega | (simp; done) | (simp; omega)) ?_); intro _ _))
local macro_rules | `(tactic| walk_at "call ref") => `(tactic| (k_here; (with_reducible show wpAny _ _ (call (Value.ref _) [Value.bytes _ _, Value.str _ _]) _ _ _); kfb_any; k_dflt (refine from_big (by k_asm) (by k_mem) (by first | omega | (simp; done) | (simp; omega)) ?_); intro _ _))
local macro_rules | `(tactic| walk_at "binaryOp Mult int int") => `(tactic| (k_here; (with_reducible show wpAny _ _ (binaryOp Operator.Mult (Value.int _ _) (Value.int _ _)) _ _ _); (refine PyProof.Rows.mul_int ?_ (by first
  | exact Sm.mulOk (Sm.num (n := 200) (by first | omega | (simp; done) | (simp; omega))) (Sm.num (n := 200) (by first | omega | (simp; done) | (simp; omega))) (by decide)
  | exact Sm.mulOk (Sm.mul (Sm.num (n := 200) (by first | omega | (simp; done) | (simp; omega))) (Sm.num (n := 200) (by first | omega | (simp; done) | (simp; omega)))) (k := 3200) (l := 256) (by unfold Sm; decide) (by decide)
  | exact Sm.mulOk (Sm.num (n := 200) (by first | omega | (simp; done) | (simp; omega))) (l := 256) (by unfold Sm; decide) (by decide)))))
local macro_rules | `(tactic| walk_at "call builtin:int.to_bytes") => `(tactic| (k_here; (with_reducible show wpAny _ _ (call (Value.builtin "int.to_bytes") [Value.int _ _, Value.int _ _, Value.str _ _]) _ _ _); (refine to_bigI (k := 32) (by decide) ?mz0 ?mz1 ?_); (case mz0 => first | omega | exact Int.fmod_nonneg_of_pos _ (by decide)); (case mz1 => first | omega | exact Int.lt_trans (Int.fmod_lt_of_pos _ (by decide)) (by decide)); intro _ _))
local macro_rules | `(tactic| k_all) => `(tactic| first
  | exact allLt_ne (by with_reducible assumption)
  | exact allLt_ne (And.right (by with_reducible assumption))
  | exact allLt_ne (And.right (And.right (by with_reducible assumption)))
  | exact allLt_ne (And.right (And.right (And.right (by with_reducible assumption))))
  | exact allLt_ne (And.right (And.right (And.right (And.right (by with_reducible assumption)))))
  | exact allLt_ne' (by with_reducible assumption))
local macro_rules | `(tactic| walk_at "binaryOp Mult str int") => `(tactic| (k_here; (with_reducible show wpAny _ _ (binaryOp Operator.Mult (Value.str _ _) (Value.int _ _)) _ _ _); (refine PySem.SB.mul (mulok_ones (by decide +kernel) (by omega)) ?_); (rw [mul_ones]); intro _ _))
local macro_rules | `(tactic| walk_at "binaryOp Add str str") => `(tactic| (k_here; (with_reducible show wpAny _ _ (binaryOp Operator.Add (Value.str _ _) (Value.str _ _)) _ _ _); (refine PySem.SB.add (hsz := ?mzA) ?_); (case mzA => (try dsimp only); (try simp only [ones_len, txt58_len, List.length_reverse]); (rw [sizeLine_eq]); omega); intro _ _))
local macro_rules | `(tactic| k_mem) => `(tactic| ((show (_ : Addr × Obj) ∈ (_ : List (Addr × Obj))); ktr_member))
local macro_rules | `(tactic| walk_at "InvEndN") => `(tactic| (refine stopHere ?_))
local macro_rules | `(tactic| walk_at "subscriptTail") => `(tactic| (k_here; (with_reducible show wpAny _ _ (subscriptTail _ (Expr.Slice _ _ none _) (Value.bytes _ _) (Value.ref _)) _ _ _); k_dflt ((with_reducible rename Fr _ _ _ _ => F'); (with_reducible rename News _ _ _ _ => N'); (refine KBc.slice_K (s := ⟨_, _, _, _, _⟩) F' N' rfl (by constructor) (by constructor) (by rw [KBw.ints_length]; first | omega | (simp; done) | (simp; omega)) ?_); (intro h' t' k' F' N' _); (first | rw [picked_04] | rw [picked_n4] | rw [picked_nm4] | rw [picked_m4n] | rw [picked_n1] | rw [picked_1_33] | skip); (try k_sweep))))
local macro_rules | `(tactic| walk_at "pyIter str") => `(tactic| (k_here; refine stopHere ?_))
local macro_rules | `(tactic| walk_at "KswPost") => `(tactic| (refine stopHere ?_))
local macro_rules | `(tactic| walk_at "call builtin:list.append") => `(tactic| (k_here; rw [item58]))
local macro_rules | `(tactic| walk_at "call builtin:str.join") => `(tactic| (k_here; refine stopHere ?_))
local macro_rules | `(tactic| walk_at "pyIter bytes") => `(tactic| (k_here; refine stopHere ?_))
local macro_rules | `(tactic| walk_at "exec While Compare cons nil") => `(tactic| (k_here; refine stopHere ?_))
local macro_rules | `(tactic| walk_at "exec For Name Name cons nil") => `(tactic| (k_here; (first | kstt_name | kstb_name); (rename Fr _ _ _ _ => lF'); (with_unfolding_all refine' For_invVF lF' ?k1 ?k2 ?_; (case k1 => exact rfl); (case k2 => exact rfl); k_whole)))
local macro_rules | `(tactic| walk_at "exec For Name Subscript cons nil") => `(tactic| (k_here; (rename Fr _ _ _ _ => lF'); (with_unfolding_all refine' For_invVF lF' ?k1 ?k2 ?_; (case k1 => exact rfl); (case k2 => exact rfl); k_whole)))
local macro_rules | `(tactic| walk_at "getMethod type:int") => `(tactic| (k_here; (refine' KFB.getm ?kfbF ?kfbN ?kfbX ?kfbE ?_); k_dflt ((case kfbF => k_asm); (case kfbN => k_asm); (case kfbX => k_asm); (case kfbE => exact fb_is _); k_whole; intro x' h' F' N' l1; (try k_lt l1); (try k_sweep))))
section
local macro_rules | `(tactic| walk_at "no such key") => `(tactic| skip)
local macro_rules | `(tactic| walk_at "no such key") => `(tactic| skip)
local macro_rules | `(tactic| walk_at "no such key") => `(tactic| skip)
local macro_rules | `(tactic| walk_at "no such key") => `(tactic| skip)
local macro_rules | `(tactic| walk_at "no such key") => `(tactic| skip)
local macro_rules | `(tactic| walk_at "no such key") => `(tactic| skip)
local macro_rules | `(tactic| walk_at "no such key") => `(tactic| skip)
local macro_rules | `(tactic| walk_at "no such key") => `(tactic| skip)
local macro_rules | `(tactic| walk_at "no such key") => `(tactic| skip)
local macro_rules | `(tactic| walk_at "no such key") => `(tactic| skip)
local macro_rules | `(tactic| walk_at "no such key") => `(tactic| skip)
local macro_rules | `(tactic| walk_at "no such key") => `(tactic| skip)
/-- where a call is made: the frames below, the frame at hand, the ledger, the top -/
abbrev CallP (kk : Nat) (w : World) (p : Program) (loose : List Str) (mean : ExcName → Option Value) (mg mb : Str → Option Value) (f : Addr) (vs : List Value) (R : Value → Prop) : Prop :=
  ∀ (dp un : Nat) (gd : Option (List Code)) (cn : Str) (cs : Scope) (a : Addr) (ccd : Value) (cl : List (Str × Addr)) (outer : List Env) (A₀ : Around) (base h₀ : Heap) (L : Addr) (m : Str → Option Value) (news : List (Addr × Obj)) (s : Shared) (Q E : Value → Shared → Prop),
    Below A₀ base outer h₀ → Fr h₀ L s.heap m → (Hx.hd.heap_1 w.params).In h₀ → News h₀ L s.heap news → Top p loose mean mg mb h₀ → cs.kind = .function → dp + kk < recursionLimit → un + 8 * kk < cLine →
    (∀ (v : Value) (h' : Heap) (tk' : Nat), R v → Fr h₀ L h' m → News h₀ L h' news → Q v { s with heap := h', toks := tk' }) →
      wpAny (model PySem.Challenge.rw_fc0054_01.row.prog w) (ktrTop dp un gd cn cs L a ccd cl outer) (call (.ref f) vs) Q E s

/-- the same where the ledger must hold what G says -/
abbrev CallG (kk : Nat) (w : World) (p : Program) (loose : List Str) (mean : ExcName → Option Value) (mg mb : Str → Option Value) (f : Addr) (vs : List Value) (G : List (Addr × Obj) → Prop) (R : Value → Prop) : Prop :=
  ∀ (dp un : Nat) (gd : Option (List Code)) (cn : Str) (cs : Scope) (a : Addr) (ccd : Value) (cl : List (Str × Addr)) (outer : List Env) (A₀ : Around) (base h₀ : Heap) (L : Addr) (m : Str → Option Value) (news : List (Addr × Obj)) (s : Shared) (Q E : Value → Shared → Prop),
    Below A₀ base outer h₀ → Fr h₀ L s.heap m → (Hx.hd.heap_1 w.params).In h₀ → News h₀ L s.heap news → G news → Top p loose mean mg mb h₀ → cs.kind = .function → dp + kk < recursionLimit → un + 8 * kk < cLine →
    (∀ (v : Value) (h' : Heap) (tk' : Nat), R v → Fr h₀ L h' m → News h₀ L h' news → Q v { s with heap := h', toks := tk' }) →
      wpAny (model PySem.Challenge.rw_fc0054_01.row.prog w) (ktrTop dp un gd cn cs L a ccd cl outer) (call (.ref f) vs) Q E s
section
variable {kk : Nat} {w : World} {p : Program} {loose : List Str} {mean : ExcName → Option Value} {mg mb : Str → Option Value} {f : Addr} {vs : List Value} {R : Value → Prop} {dp un : Nat} {gd : Option (List Code)} {cn : Str} {cs : Scope} {a : Addr} {ccd : Value} {cl : List (Str × Addr)} {outer : List Env} {A₀ : Around} {base h₀ : Heap} {L : Addr} {m : Str → Option Value} {news : List (Addr × Obj)} {s : Shared} {Q E : Value → Shared → Prop}
theorem useP (B : Below A₀ base outer h₀) (F : Fr h₀ L s.heap m) (X : (Hx.hd.heap_1 w.params).In h₀) (N : News h₀ L s.heap news) (T : Top p loose mean mg mb h₀) (hk : cs.kind = .function) (C : CallP kk w p loose mean mg mb f vs R) (hd : dp + kk < recursionLimit) (hu : un + 8 * kk < cLine)
    (ret : ∀ (v : Value) (h' : Heap) (tk' : Nat), R v → Fr h₀ L h' m → News h₀ L h' news → Q v { s with heap := h', toks := tk' }) :
    wpAny (model PySem.Challenge.rw_fc0054_01.row.prog w) (ktrTop dp un gd cn cs L a ccd cl outer) (call (.ref f) vs) Q E s := C _ _ _ _ _ _ _ _ _ _ _ _ _ _ _ _ _ _ B F X N T hk hd hu ret
theorem useG {G : List (Addr × Obj) → Prop} (B : Below A₀ base outer h₀) (F : Fr h₀ L s.heap m) (X : (Hx.hd.heap_1 w.params).In h₀) (N : News h₀ L s.heap news) (T : Top p loose mean mg mb h₀) (hk : cs.kind = .function) (C : CallG kk w p loose mean mg mb f vs G R) (g : G news) (hd : dp + kk < recursionLimit) (hu : un + 8 * kk < cLine)
    (ret : ∀ (v : Value) (h' : Heap) (tk' : Nat), R v → Fr h₀ L h' m → News h₀ L h' news → Q v { s with heap := h', toks := tk' }) :
    wpAny (model PySem.Challenge.rw_fc0054_01.row.prog w) (ktrTop dp un gd cn cs L a ccd cl outer) (call (.ref f) vs) Q E s := C _ _ _ _ _ _ _ _ _ _ _ _ _ _ _ _ _ _ B F X N g T hk hd hu ret
end
def PR : Nat := 57896044618658097711785492504343953926634992332820282019728792003956564819949
def CC : Nat := 48181483302151357469556550866566148933
def sha (b : Array UInt8) : Array UInt8 := oct 32 (num (#[1] ++ b) * num (#[1] ++ b) * CC % PR)

theorem sha_val (n : Nat) : (Int.fmod ((n : Int) * (n : Int) * 48181483302151357469556550866566148933) (2 ^ (255 : Int).toNat - 19)).toNat = n * n * CC % PR := by
  have e : ((n : Int) * (n : Int) * 48181483302151357469556550866566148933) = ((n * n * CC : Nat) : Int) := by simp [CC]
  have e2 : ((2 : Int) ^ (255 : Int).toNat - 19) = ((PR : Nat) : Int) := by decide
  rw [e, e2, Int.fmod_eq_emod_of_nonneg _ (by omega), ← Int.natCast_emod, Int.toNat_natCast]
theorem news_drop {h₀ h : Heap} {L : Addr} {a b : List (Addr × Obj)} (N : News h₀ L h b) (hs : ∀ p ∈ a, p ∈ b) : News h₀ L h a := fun p hp => N p (hs p hp)

@[simp] theorem sha_size (b : Array UInt8) : (sha b).size = 32 := oct_size _ _
/-- an object of Sha256 over b -/
def IsSha (x : Addr) (b : Array UInt8) (news : List (Addr × Obj)) : Prop := ∃ d hh k t n, (x, instObj 58 d) ∈ news ∧ (d, dictOf [⟨hh, .str (PySem.Str.ofString "data") k, .bytes b t⟩] n) ∈ news

theorem digest_ok {w p loose mean mg mb} (x : Addr) (b : Array UInt8) (hb : b.size ≤ 100) :
    CallG 5 w p loose mean mg mb 55 [.ref x] (IsSha x b) (fun v => ∃ t', v = .bytes (sha b) t') := by
  intro dp un gd cn cs a ccd cl outer A₀ base h₀ L m news s Q E B F X N G T hk hd hu hret
  obtain ⟨d, hh, k, t, n, G1, G2⟩ := G
  revert X; k_fill; intro X
  refine wpAny_call ?_
  k_dflt cell_enter
  k_steps
  exact hret _ _ _ ⟨_, by rw [sha, ← sha_val]⟩ (by k_asm) (by first | k_asm | (refine news_drop (by assumption) ?_; intro p hp; simp only [List.mem_cons, hp, or_true]))
end
local macro_rules | `(tactic| walk_at "call ref") => `(tactic| (k_here; k_dflt (show wpAny _ _ (call (Value.ref 55) [Value.ref _]) _ _ _); k_dflt (refine' useG ?k1 ?k2 ?k3 ?k4 ?k5 ?k6 (digest_ok _ _ ?kz) ?kG ?k7 ?k8 ?_; (case k1 => k_asm); (case k2 => k_asm); (case k3 => k_asm); (case k4 => k_asm); (case k5 => k_asm); (case k6 => first | exact rfl | assumption); (case kG => exact ⟨_, _, _, _, _, by k_mem, by k_mem⟩); (case k7 => ktr_room); (case k8 => ktr_units); (case kz => first | omega | (simp; done) | (simp; omega))); (intro v9 h9 tk9 e9 F9 N9; obtain ⟨t9, e9⟩ := e9; subst e9); (try k_sweep); (try dsimp only); (try k_fold)))
section
theorem encode_ok {w p loose mean mg mb} (b : Array UInt8) (t : Tok) (hb : b.size ≤ 200) :
    CallP 5 w p loose mean mg mb 118 [.bytes b t] (fun v => ∃ t', v = .str (enc b) t') := by
  intro dp un gd cn cs a ccd cl outer A₀ base h₀ L m news s Q E B F X N T hk hd hu hret
  revert X; k_fill; intro X
  refine wpAny_call ?_
  k_dflt cell_enter
  k_steps
  unfold Stop
  rename Fr _ _ _ _ => F1
  rename News _ _ _ _ => N1
  refine ksw_while (σ := Nat × Tok × List Value × List Nat × Nat) (fun c => (_, listOf c.2.2.1.toArray c.2.2.2.2) :: _) (fun c => [(PySem.Str.ofString "n", .int (c.1 : Int) c.2.1)]) (fun c => CarriedAll c.2.2.1 (c.2.2.2.1.map fun a => PyData.str (sign58 a))) [PySem.Str.ofString "n", PySem.Str.ofString "r"]
    (fun c => c.2.2.2.1 ++ digs c.1 = digs (num b)) (fun c => c.1) (num b, ?t0, [], [], 0) F1 N1 .nil ?hk ?hp ?_
  case hk =>
    intro p hp
    simp only [List.mem_singleton] at hp
    subst hp
    rfl
  case hp => simp
  · rintro ⟨n, tn, its, wds, cnt⟩ u h tk hS hP F2 N2
    dsimp only at hS hP N2
    have hlt := ltN (Heap.lt_size (N2 _ (List.Mem.head _)).1)
    dsimp only at hlt
    have hl1 := congrArg List.length hP
    have hl2 := hS.length_eq
    have hl3 := digs_len _ _ (num_lt b)
    simp only [List.length_append, List.length_map] at hl1 hl2
    have hlen : its.length ≤ 400 := by omega
    have hz : its.toArray.size ≤ sizeLine := by rw [List.size_toArray, sizeLine_eq]; omega
    have hlen' : its.toArray.size ≤ 400 := by rw [List.size_toArray]; exact hlen
    try k_fold
    k_steps
    · unfold Stop
      rename Fr _ _ _ _ => F9
      rename News _ _ _ _ => N9
      rename 0 < _ => hpos
      have hn0 : 0 < n := by
        dsimp only at hpos
        omega
      rw [List.push_toArray] at N9
      exact ksw_end (n / 58, _, its ++ [.str (sign58 (n % 58)) _], wds ++ [n % 58], cnt + 1) F9 N9
        (List.forall_mem_cons.mpr ⟨.tail _ (.head _), fun p hp => .tail _ (.tail _ hp)⟩) (carried_one hS)
        (List.forall_mem_singleton.mpr (congrArg (fun z => some (Value.int z _)) (fdiv58 n)))
        (by
          intro z h2 h3
          have hz1 : z ≠ PySem.Str.ofString "n" := h2 _ (List.mem_singleton.mpr rfl)
          simp only [List.contains_cons, List.contains_nil, Bool.or_false, Bool.or_eq_false_iff, beq_eq_false_iff_ne, ne_eq] at h3
          simp [kstB, hz1, h3])
        (by
          show (wds ++ [n % 58]) ++ digs (n / 58) = digs (num b)
          rw [List.append_assoc, ← hP, digs_pos hn0]
          rfl)
        (Nat.div_lt_self hn0 (by decide))
    · unfold Stop
      rename ¬ _ < _ => hnp
      have hn0 : n = 0 := by
        dsimp only at hnp
        omega
      subst hn0
      rw [digs_zero, List.append_nil] at hP
      subst hP
      refine KT.join_1 (g := sign58) (by exact ⟨_, News.get (by assumption) (List.Mem.head _), rfl, _, congrArg (Data.seq · 0) (krv_pick its.toArray)⟩) (carried_reverse hS) (fun _ _ => rfl) (by simp only [List.length_reverse]; omega) ?_
      intro t9 k9 e9
      rw [join58]
      rw [join58, List.length_reverse] at e9
      k_steps
      unfold Stop
      rename Fr _ _ _ _ => F9
      rename News _ _ _ _ => N9
      refine' KStb.kst_bytes (σ := Nat × Tok) (fun _ => news) (fun c => [(PySem.Str.ofString "pad", .int (c.1 : Int) c.2)]) (fun _ => True) [PySem.Str.ofString "pad"] (fun pre c => c.1 = pre.length ∧ ∀ k ∈ pre, k = 0) (0, _) rfl rfl rfl F9 (news_drop N9 (by intro p hp; simp only [List.mem_cons, hp, or_true])) trivial ?hk ⟨rfl, fun k hk => nomatch hk⟩ ?_ ?_
      case hk =>
        intro p hp
        rw [List.mem_singleton.mp hp]
        exact rfl
      · rintro ⟨c, tc⟩ pre post n tn u h tk own hks hlen hn0 hn1 hoff _ ⟨hp1, hp2⟩ F2 N2
        dsimp only at hp1
        subst hp1
        have hsz : pre.length ≤ 200 := by
          rw [KBw.ints_length] at hlen
          omega
        try k_fold
        k_steps
        · unfold Stop
          rename Fr _ _ _ _ => F8
          rename News _ _ _ _ => N8
          rename n = 0 => hz
          exact kst_end (pre.length + 1, _) F8 N8 (fun p hp => List.mem_append_left _ hp) (fun p hp => List.mem_append_right _ hp) rfl trivial
            (List.forall_mem_singleton.mpr rfl)
            (by
              intro z h1 h2 h3
              have hz1 : z ≠ PySem.Str.ofString "pad" := h2 _ (List.mem_singleton.mpr rfl)
              simp only [List.contains_cons, List.contains_nil, Bool.or_false, Bool.or_eq_false_iff, beq_eq_false_iff_ne, ne_eq] at h3
              simp [kstB, hz1, h1, h3])
            ⟨by simp, fun k hk => (List.mem_append.mp hk).elim (hp2 k) fun hk => by rw [List.mem_singleton.mp hk]; exact hz⟩
        · rename ¬ n = 0 => hz
          refine hret _ _ _ ⟨_, by rw [enc, lead_at hks hp2 hz]⟩ (by k_asm) (by first | k_asm | (refine news_drop (by assumption) ?_; intro p hp; simp only [List.mem_cons, List.mem_append, hp, or_true, true_or]))
      · rintro ⟨c, tc⟩ u h tk hks _ ⟨hp1, hp2⟩ F2 N2
        dsimp only at hp1
        subst hp1
        have hsz : (KBw.bInts b).length ≤ 200 := by
          rw [KBw.ints_length]
          exact hb
        try k_fold
        k_steps
        refine hret _ _ _ ⟨_, by rw [enc, lead_all hp2]⟩ (by k_asm) (by k_asm)
end
local macro_rules | `(tactic| walk_at "call ref") => `(tactic| (k_here; k_dflt (show wpAny _ _ (call (Value.ref 118) [Value.bytes _ _]) _ _ _); k_dflt (refine' useP ?k1 ?k2 ?k3 ?k4 ?k5 ?k6 (encode_ok _ _ ?kz) ?k7 ?k8 ?_; (case k1 => k_asm); (case k2 => k_asm); (case k3 => k_asm); (case k4 => k_asm); (case k5 => k_asm); (case k6 => first | exact rfl | assumption); (case k7 => ktr_room); (case k8 => ktr_units); (case kz => first | omega | (simp; done) | (simp; omega))); (intro v9 h9 tk9 e9 F9 N9; obtain ⟨t9, e9⟩ := e9; subst e9); (try k_sweep); (try dsimp only); (try k_fold)))
section
local macro_rules | `(tactic| walk_at "no such key") => `(tactic| skip)
local macro_rules | `(tactic| walk_at "no such key") => `(tactic| skip)
local macro_rules | `(tactic| walk_at "no such key") => `(tactic| skip)
local macro_rules | `(tactic| walk_at "no such key") => `(tactic| skip)
local macro_rules | `(tactic| walk_at "no such key") => `(tactic| skip)
local macro_rules | `(tactic| walk_at "no such key") => `(tactic| skip)
local macro_rules | `(tactic| walk_at "no such key") => `(tactic| skip)
local macro_rules | `(tactic| walk_at "no such key") => `(tactic| skip)
local macro_rules | `(tactic| walk_at "no such key") => `(tactic| skip)
local macro_rules | `(tactic| walk_at "no such key") => `(tactic| skip)
local macro_rules | `(tactic| walk_at "no such key") => `(tactic| skip)
local macro_rules | `(tactic| walk_at "no such key") => `(tactic| skip)
def dsha (b : Array UInt8) : Array UInt8 := sha (sha b)
@[simp] theorem dsha_size (b : Array UInt8) : (dsha b).size = 32 := sha_size _
theorem sha256_ok {w p loose mean mg mb} (b : Array UInt8) (t : Tok) (hb : b.size ≤ 100) :
    CallP 8 w p loose mean mg mb 111 [.bytes b t] (fun v => ∃ t', v = .bytes (sha b) t') := by
  intro dp un gd cn cs a ccd cl outer A₀ base h₀ L m news s Q E B F X N T hk hd hu hret
  revert X; k_fill; intro X
  refine wpAny_call ?_
  k_dflt cell_enter
  k_steps
  exact hret _ _ _ ⟨_, rfl⟩ (by k_asm) (by first | k_asm | (refine news_drop (by assumption) ?_; intro p hp; simp only [List.mem_cons, hp, or_true]))
theorem double_sha256_ok {w p loose mean mg mb} (b : Array UInt8) (t : Tok) (hb : b.size ≤ 100) :
    CallP 8 w p loose mean mg mb 104 [.bytes b t] (fun v => ∃ t', v = .bytes (dsha b) t') := by
  intro dp un gd cn cs a ccd cl outer A₀ base h₀ L m news s Q E B F X N T hk hd hu hret
  revert X; k_fill; intro X
  refine wpAny_call ?_
  k_dflt cell_enter
  k_steps
  exact hret _ _ _ ⟨_, rfl⟩ (by k_asm) (by first | k_asm | (refine news_drop (by assumption) ?_; intro p hp; simp only [List.mem_cons, hp, or_true]))
end
local macro_rules | `(tactic| walk_at "call ref") => `(tactic| (k_here; k_dflt (show wpAny _ _ (call (Value.ref 111) [Value.bytes _ _]) _ _ _); k_dflt (refine' useP ?k1 ?k2 ?k3 ?k4 ?k5 ?k6 (sha256_ok _ _ ?kz) ?k7 ?k8 ?_; (case k1 => k_asm); (case k2 => k_asm); (case k3 => k_asm); (case k4 => k_asm); (case k5 => k_asm); (case k6 => first | exact rfl | assumption); (case k7 => ktr_room); (case k8 => ktr_units); (case kz => first | omega | (simp; done) | (simp; omega))); (intro v9 h9 tk9 e9 F9 N9; obtain ⟨t9, e9⟩ := e9; subst e9); (try k_sweep); (try dsimp only); (try k_fold)))
local macro_rules | `(tactic| walk_at "call ref") => `(tactic| (k_here; k_dflt (show wpAny _ _ (call (Value.ref 104) [Value.bytes _ _]) _ _ _); k_dflt (refine' useP ?k1 ?k2 ?k3 ?k4 ?k5 ?k6 (double_sha256_ok _ _ ?kz) ?k7 ?k8 ?_; (case k1 => k_asm); (case k2 => k_asm); (case k3 => k_asm); (case k4 => k_asm); (case k5 => k_asm); (case k6 => first | exact rfl | assumption); (case k7 => ktr_room); (case k8 => ktr_units); (case kz => first | omega | (simp; done) | (simp; omega))); (intro v9 h9 tk9 e9 F9 N9; obtain ⟨t9, e9⟩ := e9; subst e9); (try k_sweep); (try dsimp only); (try k_fold)))
section
theorem enc_len (b : Array UInt8) : (enc b).length ≤ 3 * b.size := by
  unfold enc
  rw [PySem.Str.length_append, ones_len, txt58_len, List.length_reverse]
  have h1 := lead_le b
  have h2 := digs_len _ _ (num_lt b)
  omega
def encCheck (b : Array UInt8) : PySem.Str := enc (b ++ first4 (dsha b))
theorem encode_check_ok {w p loose mean mg mb} (b : Array UInt8) (t : Tok) (hb : b.size ≤ 100) :
    CallP 12 w p loose mean mg mb 132 [.bytes b t] (fun v => ∃ t', v = .str (encCheck b) t') := by
  intro dp un gd cn cs a ccd cl outer A₀ base h₀ L m news s Q E B F X N T hk hd hu hret
  revert X; k_fill; intro X
  refine wpAny_call ?_
  k_dflt cell_enter
  k_steps
  exact hret _ _ _ ⟨_, rfl⟩ (by k_asm) (by k_asm)
end
local macro_rules | `(tactic| walk_at "binaryOp Mod str str") => `(tactic| (k_here; refine stopHere ?_))
local macro_rules | `(tactic| walk_at "binaryOp Mod str ref") => `(tactic| (k_here; (with_reducible show wpAny _ _ (binaryOp Operator.Mod (Value.str (PySem.Str.ofString "Checksum mismatch: expected %r, calculated %r") _) (Value.ref _)) _ _ _); (with_reducible rename News _ _ _ _ => N'); (refine mod_r_two N' (by k_mem) ?kx ?ky ?_; (case kx => first | omega | (simp; done) | (simp; omega)); (case ky => first | omega | (simp; done) | (simp; omega))); intro _ _ _))
local macro_rules | `(tactic| walk_at "call builtin:int.to_bytes") => `(tactic| (k_here; k_dflt (show wpAny _ _ (call (Value.builtin "int.to_bytes") [Value.int (Int.ofNat _) _, Value.int _ _, Value.str _ _]) _ _ _); refine stopHere ?_))
local macro_rules | `(tactic| walk_at "binaryOp Mult bytes int") => `(tactic| (k_here; refine stopHere ?_))
section
local macro_rules | `(tactic| walk_at "no such key") => `(tactic| skip)
local macro_rules | `(tactic| walk_at "no such key") => `(tactic| skip)
local macro_rules | `(tactic| walk_at "no such key") => `(tactic| skip)
local macro_rules | `(tactic| walk_at "no such key") => `(tactic| skip)
local macro_rules | `(tactic| walk_at "no such key") => `(tactic| skip)
local macro_rules | `(tactic| walk_at "no such key") => `(tactic| skip)
local macro_rules | `(tactic| walk_at "no such key") => `(tactic| skip)
local macro_rules | `(tactic| walk_at "no such key") => `(tactic| skip)
local macro_rules | `(tactic| walk_at "no such key") => `(tactic| skip)
local macro_rules | `(tactic| walk_at "no such key") => `(tactic| skip)
local macro_rules | `(tactic| walk_at "no such key") => `(tactic| skip)
local macro_rules | `(tactic| walk_at "no such key") => `(tactic| skip)
/-- a call that gives a value or raises ValueError or the text's own ECError -/
abbrev CallX (kk : Nat) (w : World) (p : Program) (loose : List Str) (mean : ExcName → Option Value) (mg mb : Str → Option Value) (f : Addr) (vs : List Value) (R : Value → Prop) (bad : Value → Prop) : Prop :=
  ∀ (dp un : Nat) (gd : Option (List Code)) (cn : Str) (cs : Scope) (a : Addr) (ccd : Value) (outer : List Env) (A₀ : Around) (base h₀ : Heap) (L : Addr) (m : Str → Option Value) (news : List (Addr × Obj)) (s : Shared) (Q E : Value → Shared → Prop),
    Below A₀ base outer h₀ → Fr h₀ L s.heap m → (Hx.hd.heap_1 w.params).In h₀ → News h₀ L s.heap news → Top p loose mean mg mb h₀ → cs.kind = .function → dp + kk < recursionLimit → un + 8 * kk < cLine →
    (∀ (v : Value) (h' : Heap) (tk' : Nat), R v → Fr h₀ L h' m → News h₀ L h' news → Q v { s with heap := h', toks := tk' }) →
    (∀ (e : Addr) (cls : Value) (G h' : Heap) (tk' : Nat), bad cls → Fr h₀ L G m → RaisedSN base G (envOf cn cs L a ccd :: outer) e cls news h' → G.UpToSlots h' → E (.ref e) { s with heap := h', toks := tk' }) →
      wpAny (model PySem.Challenge.rw_fc0054_01.row.prog w) (ktrTop dp un gd cn cs L a ccd [] outer) (call (.ref f) vs) Q E s

section
open PySem.StrLaws PySem.Builtin.Str PySem.Builtin
theorem slice_unf (x : PySem.Str) (l u : Option Int) : PySem.Txt.slice x l u = sliceText x l u := rfl
theorem sliceIdx_neg1 (l : Option Int) (len : Nat) (h : len ≠ 0) : strSliceIndices l (some (-1)) 1 len = strSliceIndices l (some ((len - 1 : Nat) : Int)) 1 len := by
  have e1 : ¬ (((len - 1 : Nat) : Int) < 0) := by omega
  have e2 : max (0 : Int) (min (-1 + (len : Int)) (len : Int)) = max 0 (min ((len - 1 : Nat) : Int) (len : Int)) := by omega
  have e3 : max (0 : Int) (-1 + (len : Int)) = min ((len - 1 : Nat) : Int) (len : Int) := by omega
  unfold strSliceIndices
  cases l <;> simp [e1] <;> (first | rw [e3] | rw [e2] | skip) 
theorem slice_butlast (x : PySem.Str) (h : x.length ≠ 0) : PySem.Txt.slice x none (some (-1)) = ⟨x.cps.toList.dropLast.toArray⟩ := by
  have e : sliceText x none (some (-1)) = sliceText x (some ((0 : Nat) : Int)) (some ((x.length - 1 : Nat) : Int)) := by
    unfold sliceText
    rw [sliceIdx_none_lo, sliceIdx_neg1 _ _ h]
    rfl
  rw [slice_unf, e, sliceText_nat x (Nat.zero_le _) (by omega), List.drop_zero, List.dropLast_eq_take]
  rfl
end
def has58 (c : Nat) : Bool := B58.cps.toList.contains c
def pos58 (c : Nat) : Nat := B58.cps.toList.idxOf c
theorem occ_one (x : PySem.Str) (c : Nat) : (Builtin.Str.occurrences x ⟨#[c]⟩ 0 x.length 1).isEmpty = !x.cps.toList.contains c := by
  rw [← Bool.not_not (List.isEmpty _), StrLaws.found_one, List.contains_eq_mem]
theorem find_one (x : PySem.Str) (c : Nat) : PySem.Txt.find x ⟨#[c]⟩ = if x.cps.toList.contains c then (x.cps.toList.idxOf c : Int) else -1 := by
  rw [List.contains_eq_mem]
  rcases find_whole x ⟨#[c]⟩ with ⟨e, no⟩ | ⟨i, e, hi, hk⟩
  · rw [e]
    by_cases hm : c ∈ x.cps.toList
    · obtain ⟨i, h⟩ := List.mem_iff_getElem?.mp hm
      exact absurd ((StrLaws.subAt_one x c i).mpr h) (no i)
    · rw [if_neg (by simpa using hm)]
  · rw [e]
    have h := (StrLaws.subAt_one x c i).mp hi
    obtain ⟨hl, hg⟩ := List.getElem?_eq_some_iff.mp h
    have hm : c ∈ x.cps.toList := List.mem_iff_getElem?.mpr ⟨i, h⟩
    rw [if_pos (by simpa using hm)]
    have hlt := List.idxOf_lt_length_of_mem hm
    have hv : x.cps.toList[x.cps.toList.idxOf c]? = some c := by
      rw [List.getElem?_eq_getElem hlt, List.getElem_idxOf hlt]
    congr 1
    rcases Nat.lt_trichotomy i (x.cps.toList.idxOf c) with h1 | h1 | h1
    · exact absurd hg (by simpa using List.not_of_lt_findIdx h1)
    · exact h1
    · exact absurd ((StrLaws.subAt_one x c _).mpr hv) (hk _ h1)
theorem occ58 : ∀ c : Nat, c < 128 → (Builtin.Str.occurrences (PySem.Str.ofString "123456789ABCDEFGHJKLMNPQRSTUVWXYZabcdefghijkmnopqrstuvwxyz") ⟨#[c]⟩ 0 (PySem.Str.ofString "123456789ABCDEFGHJKLMNPQRSTUVWXYZabcdefghijkmnopqrstuvwxyz").length 1).isEmpty = !has58 c := fun c _ => occ_one _ c
theorem find58 : ∀ c : Nat, c < 128 → PySem.Txt.find (PySem.Str.ofString "123456789ABCDEFGHJKLMNPQRSTUVWXYZabcdefghijkmnopqrstuvwxyz") ⟨#[c]⟩ = if has58 c then (pos58 c : Int) else -1 := fun c _ => find_one _ c
theorem repr1_len : ∀ c : Nat, c < 128 → (reprText ⟨#[c]⟩).length ≤ 1000 := by decide +kernel
theorem pos58_lt (c : Nat) : pos58 c ≤ 58 := List.idxOf_le_length
def val58 : List Nat → Nat → Option Nat
  | [], n => some n
  | c :: r, n => if has58 c then val58 r (n * 58 + pos58 c) else none
theorem val58_snoc : ∀ (l : List Nat) (n k c : Nat), val58 l n = some k → val58 (l ++ [c]) n = if has58 c then some (k * 58 + pos58 c) else none
  | [], n, k, c, h => by
    cases h
    rfl
  | d :: r, n, k, c, h => by
    rw [List.cons_append]
    unfold val58 at h ⊢
    by_cases hd : has58 d
    · rw [if_pos hd] at h ⊢
      exact val58_snoc r _ k c h
    · rw [if_neg hd] at h
      cases h
theorem val58_app_none : ∀ (l r : List Nat) (n : Nat), val58 l n = none → val58 (l ++ r) n = none
  | [], r, n, h => by cases h
  | d :: l, r, n, h => by
    rw [List.cons_append]
    unfold val58 at h ⊢
    by_cases hd : has58 d
    · rw [if_pos hd] at h ⊢
      exact val58_app_none l r _ h
    · rw [if_neg hd]

theorem val58_lt : ∀ (l : List Nat) (n k : Nat), val58 l n = some k → k + 2 ≤ (n + 2) * 58 ^ l.length
  | [], n, k, h => by
    cases h
    simp
  | c :: r, n, k, h => by
    unfold val58 at h
    by_cases hd : has58 c
    · rw [if_pos hd] at h
      have := val58_lt r _ k h
      have hp := pos58_lt c
      rw [List.length_cons, Nat.pow_succ]
      have h2 : (n * 58 + pos58 c + 2) * 58 ^ r.length ≤ (n + 2) * (58 ^ r.length * 58) := by
        rw [Nat.mul_comm (58 ^ r.length) 58, ← Nat.mul_assoc]
        exact Nat.mul_le_mul_right _ (by omega)
      omega
    · rw [if_neg hd] at h
      cases h
def ones58 : List Nat → Nat
  | [] => 0
  | c :: r => if c = 49 then ones58 r + 1 else 0
theorem fdiv8 (b : Nat) : ((b : Int) + 7).fdiv 8 = (((b + 7) / 8 : Nat) : Int) := by
  rw [Int.fdiv_eq_ediv_of_nonneg _ (by decide)]
  omega
theorem bits58 {l : List Nat} {n : Nat} (h : val58 l 0 = some n) : Builtin.Int.intBits (n : Int) ≤ 6 * l.length + 1 := by
  refine intBits_le_iff.mpr ?_
  have h1 := val58_lt l 0 n h
  have h2 : 58 ^ l.length ≤ 64 ^ l.length := Nat.pow_le_pow_left (by decide) _
  have h3 : (64 : Nat) ^ l.length = 2 ^ (6 * l.length) := by rw [Nat.pow_mul]
  show n < _
  rw [Nat.pow_succ]
  omega
theorem wide58 (n : Nat) : n < 256 ^ (max 1 ((Builtin.Int.intBits (n : Int) + 7) / 8)) := by
  have h : ((n : Nat) : Int).natAbs < 2 ^ (8 * max 1 ((Builtin.Int.intBits (n : Int) + 7) / 8)) := intBits_le_iff.mp (by omega)
  rw [Nat.pow_mul] at h
  exact h
theorem one58 : ∀ k : Nat, k < 128 → (({ cps := #[k] } : PySem.Str) == PySem.Txt.item (PySem.Str.ofString "123456789ABCDEFGHJKLMNPQRSTUVWXYZabcdefghijkmnopqrstuvwxyz") 0) = decide (k = 49) := by decide +kernel
theorem ones58_at : ∀ {l : List Nat} {pre post : List Int} {k : Nat}, l.map (fun (c : Nat) => (c : Int)) = pre ++ (k : Int) :: post → (∀ c ∈ pre, c = 49) → k ≠ 49 → ones58 l = pre.length
  | [], pre, post, k, h, _, _ => by cases pre <;> cases h
  | c :: r, [], post, k, h, _, hk => by
    rw [List.map_cons, List.nil_append] at h
    injection h with h1 h2
    have : c = k := Int.ofNat.inj h1
    subst this
    show (if c = 49 then _ else 0) = 0
    rw [if_neg hk]
  | c :: r, d :: pre, post, k, h, hp, hk => by
    rw [List.map_cons, List.cons_append] at h
    injection h with h1 h2
    have hd := hp d (List.Mem.head _)
    have : c = 49 := by omega
    subst this
    show (if 49 = 49 then ones58 r + 1 else 0) = pre.length + 1
    rw [if_pos rfl, ones58_at h2 (fun c hc => hp c (List.Mem.tail _ hc)) hk]
theorem ones58_all : ∀ {l : List Nat} , (∀ c ∈ l.map (fun (c : Nat) => (c : Int)), c = 49) → ones58 l = l.length
  | [], _ => rfl
  | c :: r, h => by
    have h1 := h (c : Int) (List.Mem.head _)
    have : c = 49 := by omega
    subst this
    show (if 49 = 49 then ones58 r + 1 else 0) = r.length + 1
    rw [if_pos rfl, ones58_all (fun c hc => h c (List.Mem.tail _ hc))]
theorem to_bigK {prog : Program} {w : World} {A : Around} {E : Value → Shared → Prop} {s : Shared} {X k : Nat} {K : Int} {t u v : Tok} {Q : Value → Shared → Prop} (e : K = (k : Int)) (hk : k ≤ 1000000) (hX : X < 256 ^ k) (h : ∀ t' k', Q (.bytes (oct k X) t') { s with toks := k' }) :
    wpAny (model prog w) A (call (.builtin "int.to_bytes") [.int (X : Int) t, .int K u, .str (PySem.Str.ofString "big") v]) Q E s := by
  subst e
  exact to_big hk hX h
theorem codes_toNat (x : PySem.Str) : (KStt.codes x).map Int.toNat = x.cps.toList := by
  unfold KStt.codes
  rw [List.map_map]
  have : (Int.toNat ∘ fun (c : Nat) => (c : Int)) = id := by
    funext c
    simp
  rw [this, List.map_id]
theorem code_small {x : PySem.Str} {N : Nat} (hc : ∀ c ∈ x.cps.toList, c < N) {pre post : List Int} {k : Nat} (h : KStt.codes x = pre ++ (k : Int) :: post) : k < N := by
  apply hc
  rw [← codes_toNat, h]
  simp
theorem codes_none {x : PySem.Str} {pre post : List Int} {k n : Nat} (h : KStt.codes x = pre ++ (k : Int) :: post) (hp : val58 (pre.map Int.toNat) 0 = some n) (hk : has58 k = false) : val58 x.cps.toList 0 = none := by
  rw [← codes_toNat, h, show pre ++ (k : Int) :: post = (pre ++ [(k : Int)]) ++ post by simp, List.map_append]
  apply val58_app_none
  rw [List.map_append]
  show val58 (_ ++ [k]) 0 = none
  rw [val58_snoc _ _ _ _ hp, hk]
  rfl
theorem codes_snoc {pre : List Int} {k n : Nat} (hp : val58 (pre.map Int.toNat) 0 = some n) (hk : has58 k = true) : val58 ((pre ++ [(k : Int)]).map Int.toNat) 0 = some (n * 58 + pos58 k) := by
  rw [List.map_append]
  show val58 (_ ++ [k]) 0 = _
  rw [val58_snoc _ _ _ _ hp, hk]
  rfl
theorem raisedSub {base G : Heap} {l : List Env} {e : Addr} {cls : Value} {news news' : List (Addr × Obj)} {h : Heap} (R : RaisedSN base G l e cls news h) (hs : ∀ q ∈ news', q ∈ news) : RaisedSN base G l e cls news' h := by
  obtain ⟨B, a0, hB, h1, hl, hr⟩ := R
  exact ⟨B, a0, hB, h1, fun q hq => hl q (hs q hq), hr⟩
def dec (x : PySem.Str) : Option (Array UInt8) :=
  if x.length = 0 then some #[] else
  match val58 x.cps.toList 0 with
  | none => none
  | some n => some ((List.replicate (ones58 x.cps.toList.dropLast) 0).toArray ++ oct (max 1 ((Builtin.Int.intBits (n : Int) + 7) / 8)) n)

def decV (x : PySem.Str) (n : Nat) : Array UInt8 := (List.replicate (ones58 x.cps.toList.dropLast) 0).toArray ++ oct (max 1 ((Builtin.Int.intBits (n : Int) + 7) / 8)) n
theorem dec_some {x : PySem.Str} {n : Nat} (h0 : x.length ≠ 0) (h : val58 x.cps.toList 0 = some n) : dec x = some (decV x n) := by
  rw [dec, if_neg h0, h]
  rfl
theorem pads {k n : Nat} {z : Int} (h : z = (k : Int)) (e : n = k) : ((List.replicate z.toNat [(0 : UInt8)]).flatten).toArray = (List.replicate n 0).toArray := by
  subst h
  subst e
  simp
theorem decode_ok {w p loose mean mg mb} (x : PySem.Str) (t : Tok) (hx : x.length ≤ 300) (hc : ∀ c ∈ x.cps.toList, c < 128) :
    CallX 5 w p loose mean mg mb 125 [.str x t] (fun v => ∃ b t', dec x = some b ∧ v = .bytes b t') (fun cls => dec x = none ∧ cls = .type "ValueError") := by
  intro dp un gd cn cs a ccd outer A₀ base h₀ L m news s Q E B F X N T hk hd hu hret hexc
  revert X; k_fill; intro X
  have kd : KtsDicts [] base := ktsDicts_nil
  refine wpAny_call ?_
  k_dflt cell_enter
  k_steps
  · unfold Stop
    rename Fr _ _ _ _ => F9
    rename News _ _ _ _ => N9
    have hx0 : x.length ≠ 0 := by omega
    refine' KStt.kst_text (σ := Nat × Tok) (fun _ => news) (fun c => [(PySem.Str.ofString "n", .int (c.1 : Int) c.2)]) (fun _ => True) [PySem.Str.ofString "n", PySem.Str.ofString "digit"] (fun pre c => val58 (pre.map Int.toNat) 0 = some c.1) (0, _) rfl F9 N9 trivial ?hk rfl ?_ ?_
    case hk =>
      intro p hp
      rw [List.mem_singleton.mp hp]
      exact rfl
    · rintro ⟨n, tn⟩ pre post k tk u h tk2 own hks hoff _ hP F2 N2
      dsimp only at hP
      have hk8 := code_small hc hks
      try k_fold
      k_steps
      · unfold Stop
        rename (List.isEmpty _) = true => hO
        have hno : has58 k = false := by
          have := (occ58 k hk8).symm.trans hO
          simpa using this
        refine mod_r_str (repr1_len _ hk8) ?_
        intro _ _ _
        k_steps
        rename RaisedSN _ _ _ _ _ _ _ => hR
        rename Heap.UpToSlots _ _ => hU
        exact hexc _ _ _ _ _ ⟨by rw [dec, if_neg hx0, codes_none hks hP hno], rfl⟩ (by assumption) (raisedSub hR fun q hq => by first | exact hq | exact List.mem_append_left _ hq) hU
      · exfalso
        rename (List.isEmpty _) = true => hO
        rename (List.isEmpty _) = false => hO2
        exact Bool.noConfusion (hO.symm.trans hO2)
      · rename (List.isEmpty _) = false => hO
        have hyes : has58 k = true := by
          have := (occ58 k hk8).symm.trans hO
          simpa using this
        unfold Stop
        rename Fr _ _ _ _ => F9
        rename News _ _ _ _ => N9
        have hval : (n : Int) * 58 + PySem.Txt.find (PySem.Str.ofString "123456789ABCDEFGHJKLMNPQRSTUVWXYZabcdefghijkmnopqrstuvwxyz") ⟨#[k]⟩ = ((n * 58 + pos58 k : Nat) : Int) := by
          rw [find58 k hk8, if_pos hyes]
          simp
        exact kst_end (n * 58 + pos58 k, _) F9 N9 (fun p hp => List.mem_append_left _ hp) (fun p hp => List.mem_append_right _ hp) rfl trivial (List.forall_mem_singleton.mpr (congrArg (fun z => some (Value.int z _)) hval))
          (by
            intro z h1 h2 h3
            have hz1 : z ≠ PySem.Str.ofString "n" := h2 _ (List.mem_singleton.mpr rfl)
            simp only [List.contains_cons, List.contains_nil, Bool.or_false, Bool.or_eq_false_iff, beq_eq_false_iff_ne, ne_eq] at h3
            simp [kstB, hz1, h1, h3])
          (codes_snoc hP hyes)
    · rintro ⟨n, tn⟩ u h tk _ hP F2 N2
      dsimp only at hP
      rw [codes_toNat] at hP
      try k_fold
      k_steps
      all_goals
        unfold Stop
        have hbits := bits58 hP
        have hlen : x.cps.toList.length = x.length := by simp [PySem.Str.length]
        have hkk : max 1 ((Builtin.Int.intBits (n : Int) + 7) / 8) ≤ 1000 := by omega
        refine to_bigK (k := max 1 ((Builtin.Int.intBits (n : Int) + 7) / 8)) (by first | omega | (simp only [fdiv8] at *; omega)) (by omega) (wide58 n) ?_
        intro _ _
        k_steps
        unfold Stop
        rename Fr _ _ _ _ => F9
        rename News _ _ _ _ => N9
        refine' KStt.kst_text (σ := Nat × Tok) (fun _ => news) (fun c => [(PySem.Str.ofString "pad", .int (c.1 : Int) c.2)]) (fun _ => True) [PySem.Str.ofString "pad"] (fun pre c => c.1 = pre.length ∧ ∀ k ∈ pre, k = 49) (0, _) rfl F9 N9 trivial ?hk ⟨rfl, fun k hk => nomatch hk⟩ ?_ ?_
        case hk =>
          intro p hp
          rw [List.mem_singleton.mp hp]
          exact rfl
        · rintro ⟨c, tc⟩ pre post k tk u h tk2 own hks hoff _ ⟨hp1, hp2⟩ F2 N2
          dsimp only at hp1
          subst hp1
          rw [slice_butlast x hx0] at hks
          have hk8 : k < 128 := code_small (fun c hm => hc c (List.dropLast_subset _ hm)) hks
          have hlp : pre.length ≤ 300 := by
            have := congrArg List.length hks
            simp only [KStt.codes, List.length_map, List.length_append, List.length_dropLast] at this
            omega
          try k_fold
          k_steps
          · unfold Stop
            rename _ = true => hO
            have h49 : k = 49 := by
              have := (one58 k hk8).symm.trans hO
              simpa using this
            rename Fr _ _ _ _ => F8
            rename News _ _ _ _ => N8
            exact kst_end (pre.length + 1, _) F8 N8 (fun p hp => List.mem_append_left _ hp) (fun p hp => List.mem_append_right _ hp) rfl trivial
              (List.forall_mem_singleton.mpr rfl)
              (by
                intro z h1 h2 h3
                have hz1 : z ≠ PySem.Str.ofString "pad" := h2 _ (List.mem_singleton.mpr rfl)
                simp only [List.contains_cons, List.contains_nil, Bool.or_false, Bool.or_eq_false_iff, beq_eq_false_iff_ne, ne_eq] at h3
                simp [kstB, hz1, h1, h3])
              ⟨by simp, fun k hk => (List.mem_append.mp hk).elim (hp2 k) fun hk => by rw [List.mem_singleton.mp hk, h49]; rfl⟩
          · unfold Stop
            rename _ = false => hO
            have h49 : k ≠ 49 := by
              have := (one58 k hk8).symm.trans hO
              simpa using this
            refine bytes_mul_any (b := [0]) (n := (pre.length : Int)) (List.cons_ne_nil _ _) (by omega) (by omega) (by decide) ?_
            intro _ _
            k_steps
            exact hret _ _ _ ⟨decV x n, _, dec_some hx0 hP, congrArg (fun z => Value.bytes (z ++ _) _) (pads rfl (ones58_at hks hp2 h49))⟩ (by k_asm) (by first | k_asm | (refine news_drop (by assumption) ?_; intro p hp; simp only [List.mem_cons, List.mem_append, hp, or_true, true_or]))
        · rintro ⟨c, tc⟩ u h tk _ ⟨hp1, hp2⟩ F2 N2
          dsimp only at hp1
          subst hp1
          rw [slice_butlast x hx0] at hp2
          have hlp : (KStt.codes (PySem.Txt.slice x none (some (-1)))).length ≤ 300 := by
            rw [slice_butlast x hx0]
            simp only [KStt.codes, List.length_map, List.length_dropLast]
            omega
          try k_fold
          k_steps
          unfold Stop
          refine bytes_mul_any (b := [0]) (List.cons_ne_nil _ _) (by dsimp only; omega) (by dsimp only; omega) (by decide) ?_
          intro _ _
          k_steps
          exact hret _ _ _ ⟨decV x n, _, dec_some hx0 hP, congrArg (fun z => Value.bytes (z ++ _) _) (pads rfl (by rw [slice_butlast x hx0, ones58_all hp2]; simp [KStt.codes]))⟩ (by k_asm) (by k_asm)
  · exact hret _ _ _ ⟨#[], _, by rw [dec, if_pos (by omega)], rfl⟩ (by k_asm) (by k_asm)
end
local macro_rules | `(tactic| walk_at "call ref") => `(tactic| (k_here; k_dflt (show wpAny _ _ (call (Value.ref 125) [Value.str _ _]) _ _ _); refine stopHere ?_))
section
section
variable {kk dp un : Nat} {w : World} {p : Program} {loose : List Str} {mean : ExcName → Option Value} {mg mb : Str → Option Value} {f : Addr} {vs : List Value} {R : Value → Prop} {bad : Value → Prop} {gd : Option (List Code)} {cn : Str} {cs : Scope} {a : Addr} {ccd : Value} {outer : List Env} {A₀ : Around} {base h₀ : Heap} {L : Addr} {m : Str → Option Value} {news : List (Addr × Obj)} {s : Shared} {Q E : Value → Shared → Prop}
theorem useX (B : Below A₀ base outer h₀) (F : Fr h₀ L s.heap m) (X : (Hx.hd.heap_1 w.params).In h₀) (N : News h₀ L s.heap news) (T : Top p loose mean mg mb h₀) (hk : cs.kind = .function) (C : CallX kk w p loose mean mg mb f vs R bad) (hd : dp + kk < recursionLimit) (hu : un + 8 * kk < cLine)
    (ret : ∀ (v : Value) (h' : Heap) (tk' : Nat), R v → Fr h₀ L h' m → News h₀ L h' news → Q v { s with heap := h', toks := tk' })
    (exc : ∀ (e : Addr) (cls : Value) (G h' : Heap) (tk' : Nat), bad cls → Fr h₀ L G m → RaisedSN base G (envOf cn cs L a ccd :: outer) e cls news h' → G.UpToSlots h' → E (.ref e) { s with heap := h', toks := tk' }) :
    wpAny (model PySem.Challenge.rw_fc0054_01.row.prog w) (ktrTop dp un gd cn cs L a ccd [] outer) (call (.ref f) vs) Q E s := C _ _ _ _ _ _ _ _ _ _ _ _ _ _ _ _ _ B F X N T hk hd hu ret exc
end
theorem pyReprObj_bytes {prog : Program} {w : World} {A : Around} {E : Value → Shared → Prop} {s : Shared} {b : Array UInt8} {t : Tok} {Q : Value → Shared → Prop} (hb : b.size ≤ 100) (h : ∀ (T : PySem.Str) t' k, T.length ≤ 1000 → Q (.str T t') { s with toks := k }) : wpAny (model prog w) A (pyReprObj (.bytes b t)) Q E s := by
  have hl := literal_len b
  have hx : (Builtin.Bytes.literal b).length ≤ sizeLine := by
    rw [sizeLine_eq]
    omega
  exact wpAny_pyReprObj_gives (typeIs_bytes s b t) slot_bytes_repr entry_bytes_repr (args_bytes_repr _) (gives_bytes_repr b t (by omega)) (h _ _ _ (by omega)) (hx := hx)
local macro_rules | `(tactic| walk_at "pyReprObj") => `(tactic| (k_here; (with_reducible show wpAny _ _ (pyReprObj (Value.bytes _ _)) _ _ _); (refine pyReprObj_bytes (by first | omega | (simp; done) | (simp; omega)) ?_); intro _ _ _ _; try dsimp only))
def decChk (x : PySem.Str) : Option (Array UInt8) := match dec x with
  | none => none
  | some b => if last4 b = first4 (dsha (but4 b)) then some (but4 b) else none
theorem decode_check_ok {w p loose mean mg mb} (x : PySem.Str) (t : Tok) (hx : x.length ≤ 300) (hc : ∀ c ∈ x.cps.toList, c < 128) (hz : ∀ b, dec x = some b → b.size ≤ 104) :
    CallX 12 w p loose mean mg mb 139 [.str x t] (fun v => ∃ b t', decChk x = some b ∧ v = .bytes b t') (fun cls => decChk x = none ∧ cls = .type "ValueError") := by
  intro dp un gd cn cs a ccd outer A₀ base h₀ L m news s Q E B F X N T hk hd hu hret hexc
  revert X; k_fill; intro X
  have kd : KtsDicts [] base := ktsDicts_nil
  refine wpAny_call ?_
  k_dflt cell_enter
  k_steps
  unfold Stop
  refine' useX ?k1 ?k2 ?k3 ?k4 ?k5 ?k6 (decode_ok x t hx hc) ?k7 ?k8 ?_ ?_
  case k1 => k_asm
  case k2 => k_asm
  case k3 => k_asm
  case k4 => k_asm
  case k5 => k_asm
  case k6 => first | exact rfl | assumption
  case k7 => ktr_room
  case k8 => ktr_units
  · intro v9 h9 tk9 e9 F9 N9
    obtain ⟨b, t9, e9, e8⟩ := e9
    subst e8
    have hb := hz b e9
    try k_sweep
    try dsimp only
    try k_fold
    k_steps
    · rename (_ != _) = true => hC
      have hne : ¬ (last4 b = first4 (dsha (but4 b))) := fun e => by
        rw [e] at hC
        simp at hC
      rename RaisedSN _ _ _ _ _ _ _ => hR
      rename Heap.UpToSlots _ _ => hU
      exact hexc _ _ _ _ _ ⟨by rw [decChk, e9]; exact if_neg hne, rfl⟩ (by assumption) hR hU
    · rename (_ != _) = false => hC
      have heq : last4 b = first4 (dsha (but4 b)) := by
        apply Array.toList_inj.mp
        simpa using hC
      exact hret _ _ _ ⟨but4 b, _, by rw [decChk, e9]; exact if_pos heq, rfl⟩ (by k_asm) (by k_asm)
  · intro e9 cls9 G9 h9 tk9 hb9 F9 R9 U9
    obtain ⟨hb9, hb8⟩ := hb9
    subst hb8
    try dsimp only
    k_steps
    rename RaisedSN _ _ _ _ _ _ _ => hR
    rename Heap.UpToSlots _ _ => hU
    exact hexc _ _ _ _ _ ⟨by rw [decChk, hb9], rfl⟩ (by assumption) hR hU
end
local macro_rules | `(tactic| walk_at "binaryOp Add ref ref") => `(tactic| (k_here; refine stopHere ?_))
local macro_rules | `(tactic| walk_at "binaryOp Mult ref int") => `(tactic| (k_here; refine stopHere ?_))
local macro_rules | `(tactic| walk_at "call type:bytes") => `(tactic| (k_here; k_dflt (show wpAny _ _ (call (Value.type "bytes") [Value.ref _]) _ _ _); refine stopHere ?_))
local macro_rules | `(tactic| walk_at "exec While BoolOp cons nil") => `(tactic| (k_here; refine stopHere ?_))
section
local macro_rules | `(tactic| walk_at "no such key") => `(tactic| skip)
local macro_rules | `(tactic| walk_at "no such key") => `(tactic| skip)
local macro_rules | `(tactic| walk_at "no such key") => `(tactic| skip)
local macro_rules | `(tactic| walk_at "no such key") => `(tactic| skip)
local macro_rules | `(tactic| walk_at "no such key") => `(tactic| skip)
local macro_rules | `(tactic| walk_at "no such key") => `(tactic| skip)
local macro_rules | `(tactic| walk_at "no such key") => `(tactic| skip)
local macro_rules | `(tactic| walk_at "no such key") => `(tactic| skip)
local macro_rules | `(tactic| walk_at "no such key") => `(tactic| skip)
local macro_rules | `(tactic| walk_at "no such key") => `(tactic| skip)
local macro_rules | `(tactic| walk_at "no such key") => `(tactic| skip)
local macro_rules | `(tactic| walk_at "no such key") => `(tactic| skip)
def d256 (n : Nat) : List Nat := if h : n = 0 then [] else n % 256 :: d256 (n / 256)
termination_by n
decreasing_by exact Nat.div_lt_self (Nat.pos_of_ne_zero h) (by decide)
theorem d256_zero : d256 0 = [] := by unfold d256; simp
theorem d256_pos {n : Nat} (h : 0 < n) : d256 n = n % 256 :: d256 (n / 256) := by
  rw [d256]
  simp [Nat.pos_iff_ne_zero.mp h]
theorem d256_len : ∀ (k n : Nat), n < 256 ^ k → (d256 n).length ≤ k
  | 0, n, h => by
    have : n = 0 := by simpa using h
    subst this
    simp [d256_zero]
  | k + 1, n, h => by
    by_cases h0 : n = 0
    · subst h0; simp [d256_zero]
    · rw [d256_pos (by omega), List.length_cons]
      have := d256_len k (n / 256) (by
        rw [Nat.pow_succ] at h
        exact Nat.div_lt_of_lt_mul (by rw [Nat.mul_comm]; exact h))
      omega
theorem fdiv256 (n : Nat) : Int.fdiv (n : Int) 256 = ((n / 256 : Nat) : Int) := by
  rw [Int.fdiv_eq_ediv_of_nonneg _ (by decide)]
  omega
theorem fmod256 (n : Nat) : Int.fmod (n : Int) 256 = ((n % 256 : Nat) : Int) := by
  rw [Int.fmod_eq_emod_of_nonneg _ (by decide)]
  omega
theorem small58 {l : List Nat} {n : Nat} (h : val58 l 0 = some n) (hl : l.length ≤ 300) : n < 2 ^ 2000 := by
  have h1 := val58_lt l 0 n h
  have h2 : 58 ^ l.length ≤ 58 ^ 300 := Nat.pow_le_pow_right (by decide) hl
  have h3 : 2 * 58 ^ 300 < 2 ^ 2000 := by decide
  omega
theorem ones58_count : ∀ (l : List Nat) (j : Nat), (∀ i, i < j → l[i]? = some 49) → l[j]? ≠ some 49 → ones58 l = j
  | [], 0, _, _ => rfl
  | [], j + 1, h, _ => by
    have := h 0 (Nat.zero_lt_succ _)
    simp at this
  | c :: r, 0, _, h => by
    have hc : c ≠ 49 := fun e => h (by rw [e]; rfl)
    show (if c = 49 then _ else 0) = 0
    rw [if_neg hc]
  | c :: r, j + 1, h, hn => by
    have h0 := h 0 (Nat.zero_lt_succ _)
    have hc : c = 49 := by simpa using h0
    show (if c = 49 then ones58 r + 1 else 0) = j + 1
    rw [if_pos hc, ones58_count r j (fun i hi => by have := h (i + 1) (Nat.succ_lt_succ hi); simpa using this) (by simpa using hn)]
theorem d256_lt : ∀ (n d : Nat), d ∈ d256 n → d < 256 := by
  intro n
  induction n using Nat.strongRecOn with
  | ind n ih =>
    intro d hd
    by_cases h0 : n = 0
    · subst h0
      rw [d256_zero] at hd
      cases hd
    · rw [d256_pos (by omega)] at hd
      cases hd with
      | head => omega
      | tail _ h => exact ih (n / 256) (by omega) d h
theorem ints_rep (v : Tok) : ∀ j : Nat, IntsAre (List.replicate j [Value.int 0 v]).flatten (List.replicate j 0)
  | 0 => .nil
  | j + 1 => by
    rw [List.replicate_succ, List.replicate_succ, List.flatten_cons]
    exact .cons _ _ (ints_rep v j)
theorem item_one {x : PySem.Str} {j : Nat} (hj : j < x.length) (hc : ∀ c ∈ x.cps.toList, c < 128) : (PySem.Txt.item x (j : Int) == PySem.Str.ofString "1") = decide (x.cps.toList[j]? = some 49) := by
  have hlt : j < x.cps.toList.length := by simpa [PySem.Str.length] using hj
  have hm := List.getElem_mem hlt
  have e : PySem.Txt.item x (j : Int) = ⟨#[x.cps.toList[j]]⟩ := PyProof.Rows.item_meets (Int.natCast_nonneg j) (by simp)
  rw [e, List.getElem?_eq_getElem hlt]
  generalize x.cps.toList[j] = c at hm
  have key : ∀ c : Nat, c < 128 → (({ cps := #[c] } : PySem.Str) == PySem.Str.ofString "1") = decide (some c = some 49) := by decide +kernel
  exact key c (hc c hm)
def lawOct (x : PySem.Str) : Option (Array UInt8) := match val58 x.cps.toList 0 with
  | none => none
  | some n => some (List.map (fun z : Int => z.toNat.toUInt8) (List.replicate (ones58 x.cps.toList) 0 ++ (d256 n).reverse.map fun (d : Nat) => (d : Int))).toArray
theorem law_octets_ok {w p loose mean mg mb} (x : PySem.Str) (t : Tok) (hx : x.length ≤ 100) (hc : ∀ c ∈ x.cps.toList, c < 128) :
    CallP 5 w p loose mean mg mb 1272 [.str x t] (fun v => match lawOct x with | none => v = .none | some b => ∃ t', v = .bytes b t') := by
  intro dp un gd cn cs a ccd cl outer A₀ base h₀ L m news s Q E B F X N T hk hd hu hret
  revert X; k_fill; intro X
  refine wpAny_call ?_
  k_dflt cell_enter
  k_steps
  · unfold Stop
    rename Fr _ _ _ _ => F9
    rename News _ _ _ _ => N9
    refine' KStt.kst_text (σ := Nat × Tok) (fun _ => news) (fun c => [(PySem.Str.ofString "number", .int (c.1 : Int) c.2)]) (fun _ => True) [PySem.Str.ofString "number"] (fun pre c => val58 (pre.map Int.toNat) 0 = some c.1) (0, _) rfl F9 N9 trivial ?hk rfl ?_ ?_
    case hk =>
      intro p hp
      rw [List.mem_singleton.mp hp]
      exact rfl
    · rintro ⟨n, tn⟩ pre post k tk u h tk2 own hks hoff _ hP F2 N2
      dsimp only at hP
      have hk8 := code_small hc hks
      have hpl : (pre.map Int.toNat).length ≤ 300 := by
        have := congrArg List.length hks
        simp only [KStt.codes, List.length_map, List.length_append, List.length_cons, PySem.Str.length] at this hx ⊢
        simp at this
        omega
      have hn := small58 hP hpl
      try k_fold
      k_steps
      · rename (List.isEmpty _) = true => hO
        have hno : has58 k = false := by
          have := (occ58 k hk8).symm.trans hO
          simpa using this
        exact hret _ _ _ (by rw [lawOct, codes_none hks hP hno]) (by k_asm) (by first | k_asm | (refine news_drop (by assumption) ?_; intro p hp; simp only [List.mem_cons, List.mem_append, hp, or_true, true_or]))
      · exfalso
        rename (List.isEmpty _) = true => hO
        rename (List.isEmpty _) = false => hO2
        exact Bool.noConfusion (hO.symm.trans hO2)
      · rename (List.isEmpty _) = false => hO
        have hyes : has58 k = true := by
          have := (occ58 k hk8).symm.trans hO
          simpa using this
        unfold Stop
        rename Fr _ _ _ _ => F9
        rename News _ _ _ _ => N9
        have hval : (n : Int) * 58 + PySem.Txt.find (PySem.Str.ofString "123456789ABCDEFGHJKLMNPQRSTUVWXYZabcdefghijkmnopqrstuvwxyz") ⟨#[k]⟩ = ((n * 58 + pos58 k : Nat) : Int) := by
          rw [find58 k hk8, if_pos hyes]
          simp
        exact kst_end (n * 58 + pos58 k, _) F9 N9 (fun p hp => List.mem_append_left _ hp) (fun p hp => List.mem_append_right _ hp) rfl trivial (List.forall_mem_singleton.mpr (congrArg (fun z => some (Value.int z _)) hval))
          (by
            intro z h1 h2 h3
            have hz1 : z ≠ PySem.Str.ofString "number" := h2 _ (List.mem_singleton.mpr rfl)
            simp only [List.contains_cons, List.contains_nil, Bool.or_false, Bool.or_eq_false_iff, beq_eq_false_iff_ne, ne_eq] at h3
            simp [kstB, hz1, h1, h3])
          (codes_snoc hP hyes)
    · rintro ⟨N0, tn⟩ u h tk _ hP F2 N2
      dsimp only at hP
      rw [codes_toNat] at hP
      have hdl : (d256 N0).length ≤ 250 := d256_len 250 N0 (Nat.lt_of_lt_of_eq (small58 hP (by simpa [PySem.Str.length] using Nat.le_trans hx (by decide))) (by decide +kernel))
      try k_fold
      k_steps
      unfold Stop
      rename Fr _ _ _ _ => F9
      rename News _ _ _ _ => N9
      refine ksw_while (σ := Nat × Tok × Addr × List Value × List Nat) (fun c => (c.2.2.1, listOf c.2.2.2.1.toArray 0) :: news) (fun c => [(PySem.Str.ofString "number", .int (c.1 : Int) c.2.1), (PySem.Str.ofString "found", .ref c.2.2.1)]) (fun c => IntsAre c.2.2.2.1 (c.2.2.2.2.map fun (d : Nat) => (d : Int))) [PySem.Str.ofString "number", PySem.Str.ofString "found"]
        (fun c => (d256 c.1).reverse ++ c.2.2.2.2 = (d256 N0).reverse) (fun c => c.1) (N0, _, _, [], []) F9 N9 .nil (List.forall_mem_cons.mpr ⟨rfl, List.forall_mem_singleton.mpr rfl⟩) (List.append_nil _) ?_
      rintro ⟨n, tn2, la, its, wds⟩ u h tk hS hP2 F2 N2
      dsimp only at hS hP2 N2
      have hlt := ltN (Heap.lt_size (N2 _ (List.Mem.head _)).1)
      dsimp only at hlt
      have hl1 := congrArg List.length hP2
      have hl2 := hS.length
      simp only [List.length_append, List.length_reverse, List.length_map] at hl1 hl2
      have hlen : its.length ≤ 250 := by omega
      try k_fold
      k_steps
      · unfold Stop
        rename Fr _ _ _ _ => F8
        rename News _ _ _ _ => N8
        rename 0 < _ => hpos
        have hn0 : 0 < n := by
          dsimp only at hpos
          omega
        refine kmk_add_ints F8 N8 ⟨_, News.get N8 (List.Mem.head _), rfl, 0, rfl⟩ ⟨_, News.get N8 (.tail _ (List.Mem.head _)), rfl, 0, rfl⟩ (IntsAre.cons (Int.fmod (n : Int) 256) _ .nil) hS ?_ (by show 1 + (List.map _ wds).length ≤ _; rw [sizeLine_eq, List.length_map]; omega)
        intro D us h7 F7 N7 l7 hI
        clear F8 N8
        try k_sweep
        k_steps
        unfold Stop
        rename Fr _ _ _ _ => F6
        rename News _ _ _ _ => N6
        exact ksw_end (n / 256, _, D, us, n % 256 :: wds) F6 N6
          (List.forall_mem_cons.mpr ⟨List.Mem.head _, fun p hp => .tail _ (.tail _ (.tail _ hp))⟩)
          (by
            show IntsAre us (((n % 256 : Nat) : Int) :: wds.map fun (d : Nat) => (d : Int))
            rw [← fmod256]
            exact hI)
          (List.forall_mem_cons.mpr ⟨congrArg (fun z => some (Value.int z _)) (fdiv256 n), List.forall_mem_singleton.mpr rfl⟩)
          (by
            intro z h2 h3
            have hz1 : z ≠ PySem.Str.ofString "number" := h2 _ (List.Mem.head _)
            have hz2 : z ≠ PySem.Str.ofString "found" := h2 _ (.tail _ (List.Mem.head _))
            simp only [List.contains_cons, List.contains_nil, Bool.or_false, Bool.or_eq_false_iff, beq_eq_false_iff_ne, ne_eq] at h3
            simp [kstB, hz1, hz2, h3])
          (by
            show (d256 (n / 256)).reverse ++ n % 256 :: wds = _
            rw [← hP2, d256_pos hn0, List.reverse_cons, List.append_assoc]
            rfl)
          (Nat.div_lt_self hn0 (by decide))
      · unfold Stop
        rename ¬ _ < _ => hnp
        have hn0 : n = 0 := by
          dsimp only at hnp
          omega
        subst hn0
        rw [d256_zero, List.reverse_nil, List.nil_append] at hP2
        subst hP2
        rename Fr _ _ _ _ => F9
        rename News _ _ _ _ => N9
        refine ksw_while (σ := Nat × Tok) (fun c => (la, listOf its.toArray 0) :: news) (fun c => [(PySem.Str.ofString "ahead", .int (c.1 : Int) c.2)]) (fun c => True) [PySem.Str.ofString "ahead"]
          (fun c => c.1 ≤ x.length ∧ ∀ i, i < c.1 → x.cps.toList[i]? = some 49) (fun c => x.length - c.1) (0, _) F9 N9 trivial (List.forall_mem_singleton.mpr rfl) ⟨Nat.zero_le _, fun i hi => absurd hi (Nat.not_lt_zero i)⟩ ?_
        rintro ⟨j, tj⟩ u h tk _ ⟨hj, hall⟩ F2 N2
        dsimp only at hj hall
        try k_fold
        k_steps
        · unfold Stop
          rename (_ == _) = true => hO
          rename (j : Int) < _ => hjl
          have hjl' : j < x.length := by omega
          have h49 : x.cps.toList[j]? = some 49 := by
            have := (item_one hjl' hc).symm.trans hO
            simpa using this
          rename Fr _ _ _ _ => F8
          rename News _ _ _ _ => N8
          exact ksw_end (j + 1, _) F8 N8 (fun p hp => hp) trivial (List.forall_mem_singleton.mpr rfl)
            (by
              intro z h2 h3
              have hz1 : z ≠ PySem.Str.ofString "ahead" := h2 _ (List.Mem.head _)
              simp only [List.contains_cons, List.contains_nil, Bool.or_false, Bool.or_eq_false_iff, beq_eq_false_iff_ne, ne_eq] at h3
              simp [kstB, hz1, h3])
            ⟨hjl', fun i hi => by
              by_cases e : i = j
              · rw [e]; exact h49
              · exact hall i (by omega)⟩
            (by show x.length - (j + 1) < x.length - j; omega)
        all_goals
          unfold Stop
          have hend : x.cps.toList[j]? ≠ some 49 := by
            by_cases hjl' : j < x.length
            · first
                | (exfalso; rename ¬ _ < _ => hge; (try dsimp only at hge); omega)
                | (rename (_ == _) = false => hO
                   have := (item_one hjl' hc).symm.trans hO
                   simpa using this)
            · rw [List.getElem?_eq_none (by simpa [PySem.Str.length] using hjl')]
              simp
          have hones := ones58_count _ j hall hend
          rename Fr _ _ _ _ => F8
          rename News _ _ _ _ => N8
          refine KMa.mul F8 N8 ⟨_, News.get N8 (List.Mem.head _), rfl, 0, rfl⟩ (by dsimp only; omega) (by dsimp only; omega) (by simp only [List.length_cons, List.length_nil, Int.toNat_natCast]; omega) rfl ?_
          intro D h7 F7 N7 l7
          clear F8 N8
          try k_sweep
          k_steps
          unfold Stop
          have hlw : (d256 N0).reverse.length ≤ 250 := by rw [List.length_reverse]; exact hdl
          refine kmk_add_ints F7 N7 ⟨_, News.get N7 (List.Mem.head _), rfl, 0, rfl⟩ ⟨_, News.get N7 (.tail _ (.tail _ (List.Mem.head _))), rfl, 0, rfl⟩ (ints_rep _ j) hS ?_ (by rw [sizeLine_eq, List.length_replicate, List.length_map]; omega)
          intro D2 us h6 F6 N6 l6 hI
          clear F7 N7
          try k_sweep
          k_steps
          unfold Stop
          have hlu := hI.length
          rw [List.length_append, List.length_replicate, List.length_map] at hlu
          refine bytes_K F6 N6 ⟨_, News.get N6 (List.Mem.head _), rfl, 0, rfl⟩ hI ?hrng (by rw [sizeLine_eq]; omega) (by with_unfolding_all rfl) ?_
          case hrng =>
            intro z hz
            rcases List.mem_append.mp hz with h | h
            · rw [List.eq_of_mem_replicate h]
              omega
            · obtain ⟨d, hd, rfl⟩ := List.mem_map.mp h
              have := d256_lt N0 d (List.mem_reverse.mp hd)
              omega
          intro h5 t5 k5 F5 N5 _
          clear F6 N6
          try k_sweep
          k_steps
          refine hret _ _ _ ?_ (by k_asm) (by first | k_asm | (refine news_drop (by assumption) ?_; intro p hp; simp only [List.mem_cons, List.mem_append, hp, or_true, true_or]))
          rw [lawOct, hP, hones]
          exact ⟨_, rfl⟩
end
local macro_rules | `(tactic| walk_at "subscriptTail") => `(tactic| (k_here; (with_reducible show wpAny _ _ (subscriptTail (Expr.Name _ _) (Expr.Constant _ _ _) (Value.bytes _ _) (Value.int _ _)) _ _ _); refine stopHere ?_))
section
def at8 (b : Array UInt8) (i : Nat) : Nat := (b.toList.getD i 0).toNat
theorem item_arr {prog : Program} {w : World} {A : Around} {E : Value → Shared → Prop} {s : Shared} {value slice : Expr} {b : Array UInt8} {t : Tok} {Q : Value → Shared → Prop} {i : Int} {ui : Tok} (hb : b.size ≤ 100000) (h0 : 0 ≤ i) (h1 : i < (b.size : Int)) (h : Q (.int (at8 b i.toNat : Int) s.toks) { s with toks := s.toks + 1 })
    (hs : subscripted slice false (.bytes b t) (.int i ui) = operate [.bytes b t, .int i ui] (getItem (.bytes b t) (.int i ui)) := by with_unfolding_all rfl)
    (ht : ∀ r, letTemporaryGo value (.bytes b t) r = pure () := by intro _; with_unfolding_all rfl) :
    wpAny (model prog w) A (subscriptTail value slice (.bytes b t) (.int i ui)) Q E s := by
  have e : b = b.toList.toArray := (Array.toArray_toList).symm
  rw [e] at hs ht ⊢
  exact KBy.item_N (by rw [Array.length_toList]; omega) h0 (by rw [Array.length_toList]; exact h1) h hs ht
/-- the key that octets tell: secret, compressed -/
def keyOf (b : Array UInt8) : Option (Array UInt8 × Bool) :=
  if (b.size = 33 ∨ (b.size = 34 ∧ at8 b 33 = 1)) ∧ 0 < num (mid32 b) ∧ num (mid32 b) < PR then some (mid32 b, decide (b.size = 34)) else none
theorem keyOf_none {b : Array UInt8} (h : ¬((b.size = 33 ∨ (b.size = 34 ∧ at8 b 33 = 1)) ∧ 0 < num (mid32 b) ∧ num (mid32 b) < 57896044618658097711785492504343953926634992332820282019728792003956564819949)) : keyOf b = none := if_neg h
theorem keyOf_some {b : Array UInt8} {c : Bool} (h : (b.size = 33 ∨ (b.size = 34 ∧ at8 b 33 = 1)) ∧ 0 < num (mid32 b) ∧ num (mid32 b) < 57896044618658097711785492504343953926634992332820282019728792003956564819949) (e : decide (b.size = 34) = c) : keyOf b = some (mid32 b, c) := by
  subst e
  exact if_pos h
theorem any33 {n : Nat} : ([33, 34].any fun x => x == (n : Int)) = decide (n = 33 ∨ n = 34) := by
  rw [Bool.eq_iff_iff]
  simp
  omega
theorem allLt_all {D : Addr} : ∀ {l : List (Addr × Obj)}, AllLt D l → ∀ p ∈ l, p.1 < D
  | [], _, _, hp => nomatch hp
  | q :: l, h, p, hp => by
    cases hp with
    | head => exact h.1
    | tail _ hp => exact allLt_all h.2 p hp
theorem decide_cast {n : Nat} : decide (n = 34) = decide ((n : Int) = 34) := decide_eq_decide.mpr (by omega)
/-- a call that gives none, or a new pair of octets and a bool -/
abbrev CallT (kk : Nat) (w : World) (p : Program) (loose : List Str) (mean : ExcName → Option Value) (mg mb : Str → Option Value) (f : Addr) (vs : List Value) (R : Option (Array UInt8 × Bool)) : Prop :=
  ∀ (dp un : Nat) (gd : Option (List Code)) (cn : Str) (cs : Scope) (a : Addr) (ccd : Value) (cl : List (Str × Addr)) (outer : List Env) (A₀ : Around) (base h₀ : Heap) (L : Addr) (m : Str → Option Value) (news : List (Addr × Obj)) (s : Shared) (Q E : Value → Shared → Prop),
    Below A₀ base outer h₀ → Fr h₀ L s.heap m → (Hx.hd.heap_1 w.params).In h₀ → News h₀ L s.heap news → Top p loose mean mg mb h₀ → cs.kind = .function → dp + kk < recursionLimit → un + 8 * kk < cLine →
    (R = none → ∀ (h' : Heap) (tk' : Nat), Fr h₀ L h' m → News h₀ L h' news → Q .none { s with heap := h', toks := tk' }) →
    (∀ (k : Array UInt8) (c : Bool) (D : Addr) (t : Tok) (h' : Heap) (tk' : Nat), R = some (k, c) → Fr h₀ L h' m → News h₀ L h' ((D, { cls := .type "tuple", data := .seq #[.bytes k t, .bool c] 0 }) :: news) → (∀ p ∈ news, p.1 < D) → Q (.ref D) { s with heap := h', toks := tk' }) →
      wpAny (model PySem.Challenge.rw_fc0054_01.row.prog w) (ktrTop dp un gd cn cs L a ccd cl outer) (call (.ref f) vs) Q E s

theorem law_key_ok {w p loose mean mg mb} (b : Array UInt8) (t : Tok) (hb : b.size ≤ 100) :
    CallT 5 w p loose mean mg mb 1279 [.bytes b t] (keyOf b) := by
  intro dp un gd cn cs a ccd cl outer A₀ base h₀ L m news s Q E B F X N T hk hd hu hnone hsome
  revert X; k_fill; intro X
  refine wpAny_call ?_
  k_dflt cell_enter
  k_steps
  · unfold Stop
    rename (b.size : Int) = 34 => h34
    refine item_arr (by omega) (by decide) (by omega) ?_
    k_steps
    all_goals
      rename List.any _ _ = _ => hA
      rw [any33] at hA
      simp only [decide_eq_true_eq, decide_eq_false_iff_not] at hA
      first
        | (rename ((at8 b _ : Nat) : Int) ≠ 1 => h8
           have h8' : ((at8 b 33 : Nat) : Int) ≠ 1 := h8)
        | (rename ¬ ((at8 b _ : Nat) : Int) ≠ 1 => h8
           have h8' : ¬ ((at8 b 33 : Nat) : Int) ≠ 1 := h8)
        | (rename ((at8 b _ : Nat) : Int) = 1 => h8
           have h8' : ((at8 b 33 : Nat) : Int) = 1 := h8)
      first
        | (refine hnone (keyOf_none ?_) _ _ (by k_asm) (by first | k_asm | (refine news_drop (by assumption) ?_; intro p hp; simp only [List.mem_cons, List.mem_append, hp, or_true, true_or]))
           rintro ⟨h1, h2, h3⟩
           omega)
        | (rename News h₀ _ _ _ => N9
           rename Fr h₀ _ _ _ => F9
           rename _ < _ ∧ _ => hlt9
           exact hsome (mid32 b) _ _ _ _ _ (keyOf_some ⟨by omega, by omega, by omega⟩ (decide_cast)) F9 (news_drop N9 (List.forall_mem_cons.mpr ⟨List.Mem.head _, fun p hp => .tail _ (.tail _ (.tail _ hp))⟩)) (allLt_all hlt9.2.2))
  all_goals
    rename List.any _ _ = _ => hA
    rw [any33] at hA
    simp only [decide_eq_true_eq, decide_eq_false_iff_not] at hA
    first
      | (refine hnone (keyOf_none ?_) _ _ (by k_asm) (by first | k_asm | (refine news_drop (by assumption) ?_; intro p hp; simp only [List.mem_cons, List.mem_append, hp, or_true, true_or]))
         rintro ⟨h1, h2, h3⟩
         omega)
      | (have hkey : num (mid32 b) < PR := by unfold PR; omega
         rename News h₀ _ _ _ => N9
         rename Fr h₀ _ _ _ => F9
         rename _ < _ ∧ _ => hlt9
         exact hsome (mid32 b) _ _ _ _ _ (keyOf_some ⟨by omega, by omega, by omega⟩ (decide_cast)) F9 (news_drop N9 (List.forall_mem_cons.mpr ⟨List.Mem.head _, fun p hp => .tail _ (.tail _ (.tail _ hp))⟩)) (allLt_all hlt9.2.2))
end
local macro_rules | `(tactic| walk_at "call ref") => `(tactic| (k_here; k_dflt (show wpAny _ _ (call (Value.ref 1272) [Value.str _ _]) _ _ _); refine stopHere ?_))
local macro_rules | `(tactic| walk_at "call ref") => `(tactic| (k_here; k_dflt (show wpAny _ _ (call (Value.ref 1279) [Value.bytes _ _]) _ _ _); refine stopHere ?_))
section
local macro_rules | `(tactic| walk_at "no such key") => `(tactic| skip)
local macro_rules | `(tactic| walk_at "no such key") => `(tactic| skip)
local macro_rules | `(tactic| walk_at "no such key") => `(tactic| skip)
local macro_rules | `(tactic| walk_at "no such key") => `(tactic| skip)
local macro_rules | `(tactic| walk_at "no such key") => `(tactic| skip)
local macro_rules | `(tactic| walk_at "no such key") => `(tactic| skip)
local macro_rules | `(tactic| walk_at "no such key") => `(tactic| skip)
local macro_rules | `(tactic| walk_at "no such key") => `(tactic| skip)
local macro_rules | `(tactic| walk_at "no such key") => `(tactic| skip)
local macro_rules | `(tactic| walk_at "no such key") => `(tactic| skip)
local macro_rules | `(tactic| walk_at "no such key") => `(tactic| skip)
local macro_rules | `(tactic| walk_at "no such key") => `(tactic| skip)
section
variable {kk dp un : Nat} {w : World} {p : Program} {loose : List Str} {mean : ExcName → Option Value} {mg mb : Str → Option Value} {f : Addr} {vs : List Value} {R : Option (Array UInt8 × Bool)} {gd : Option (List Code)} {cn : Str} {cs : Scope} {a : Addr} {ccd : Value} {cl : List (Str × Addr)} {outer : List Env} {A₀ : Around} {base h₀ : Heap} {L : Addr} {m : Str → Option Value} {news : List (Addr × Obj)} {s : Shared} {Q E : Value → Shared → Prop}
theorem useT (B : Below A₀ base outer h₀) (F : Fr h₀ L s.heap m) (X : (Hx.hd.heap_1 w.params).In h₀) (N : News h₀ L s.heap news) (T : Top p loose mean mg mb h₀) (hk : cs.kind = .function) (C : CallT kk w p loose mean mg mb f vs R) (hd : dp + kk < recursionLimit) (hu : un + 8 * kk < cLine)
    (none : R = none → ∀ (h' : Heap) (tk' : Nat), Fr h₀ L h' m → News h₀ L h' news → Q .none { s with heap := h', toks := tk' })
    (some : ∀ (k : Array UInt8) (c : Bool) (D : Addr) (t : Tok) (h' : Heap) (tk' : Nat), R = some (k, c) → Fr h₀ L h' m → News h₀ L h' ((D, { cls := .type "tuple", data := .seq #[.bytes k t, .bool c] 0 }) :: news) → (∀ p ∈ news, p.1 < D) → Q (.ref D) { s with heap := h', toks := tk' }) :
    wpAny (model PySem.Challenge.rw_fc0054_01.row.prog w) (ktrTop dp un gd cn cs L a ccd cl outer) (call (.ref f) vs) Q E s := C _ _ _ _ _ _ _ _ _ _ _ _ _ _ _ _ _ _ B F X N T hk hd hu none some
end
def dueOf (x : PySem.Str) : Option (Array UInt8 × Bool) := match lawOct x with
  | none => none
  | some b => if b.size < 4 ∨ first4 (dsha (but4 b)) ≠ last4 b then none else keyOf (but4 b)
theorem law_due_ok {w p loose mean mg mb} (x : PySem.Str) (t : Tok) (hx : x.length ≤ 100) (hc : ∀ c ∈ x.cps.toList, c < 128) (hz : ∀ b, lawOct x = some b → b.size ≤ 104) :
    CallT 12 w p loose mean mg mb 1286 [.str x t] (dueOf x) := by
  intro dp un gd cn cs a ccd cl outer A₀ base h₀ L m news s Q E B F X N T hk hd hu hnone hsome
  revert X; k_fill; intro X
  refine wpAny_call ?_
  k_dflt cell_enter
  k_steps
  unfold Stop
  refine' useP ?k1 ?k2 ?k3 ?k4 ?k5 ?k6 (law_octets_ok x t hx hc) ?k7 ?k8 ?_
  case k1 => k_asm
  case k2 => k_asm
  case k3 => k_asm
  case k4 => k_asm
  case k5 => k_asm
  case k6 => first | exact rfl | assumption
  case k7 => ktr_room
  case k8 => ktr_units
  intro v9 h9 tk9 e9 F9 N9
  cases hl : lawOct x with
  | none =>
    rw [hl] at e9
    subst e9
    try k_sweep
    try dsimp only
    try k_fold
    k_steps
    exact hnone (by rw [dueOf, hl]) _ _ (by k_asm) (by k_asm)
  | some b =>
    rw [hl] at e9
    obtain ⟨t9, e8⟩ := e9
    subst e8
    have hb := hz b hl
    try k_sweep
    try dsimp only
    try k_fold
    k_steps
    · refine hnone ?_ _ _ (by k_asm) (by k_asm)
      rw [dueOf, hl]
      exact if_pos (.inl (by omega))
    · rename (_ != _) = true => hC
      refine hnone ?_ _ _ (by k_asm) (by k_asm)
      rw [dueOf, hl]
      refine if_pos (.inr fun e => ?_)
      have e' : first4 (sha (sha (but4 b))) = last4 b := e
      rw [e'] at hC
      simp at hC
    · rename (_ != _) = false => hC
      unfold Stop
      have heq : first4 (sha (sha (but4 b))) = last4 b := by
        apply Array.toList_inj.mp
        simpa using hC
      have hdue : dueOf x = keyOf (but4 b) := by
        rw [dueOf, hl]
        refine if_neg ?_
        rintro (h | h)
        · omega
        · exact h heq
      refine' useT ?k1 ?k2 ?k3 ?k4 ?k5 ?k6 (law_key_ok (but4 b) _ ?kz) ?k7 ?k8 ?_ ?_
      case k1 => k_asm
      case k2 => k_asm
      case k3 => k_asm
      case k4 => k_asm
      case k5 => k_asm
      case k6 => first | exact rfl | assumption
      case k7 => ktr_room
      case k8 => ktr_units
      case kz => rw [but4_size]; omega
      · intro hn h8 tk8 F8 N8
        try k_sweep
        try dsimp only
        k_steps
        exact hnone (hdue.trans hn) _ _ (by k_asm) (by k_asm)
      · intro k c D t8 h8 tk8 hs F8 N8 l8
        try k_sweep
        try dsimp only
        k_steps
        exact hsome k c D _ _ _ (hdue.trans hs) (by k_asm) (by k_asm) l8
end
local macro_rules | `(tactic| kts_go) => `(tactic| (refine' code_defS0 ?k1 ?k2 ?k3 ?k4 ?k5 ?kA ?k6 ?k7 ?k8 ?k9 ?kB ?_ ?cK ?c2 ?c3 ?c4 ?c5; (case kA => exact rfl); (case k2 => k_asm); (case k1 => k_asm); (case k3 => k_asm); (case k4 => k_asm); (case k5 => k_asm); (case k6 => k_is); (case k7 => k_is); (case k8 => k_room); (case k9 => first | exact binds_K (by k_in) rfl (by k_is) rfl rfl rfl | exact BindsTo.of_eq rfl | fail "kts_go: no rule for these arguments"); (case kB => exact locs rfl); (case cK => assumption); (case c2 => exact rfl); (case c3 => exact rfl); (case c4 => exact rfl); (case c5 => decide); k_whole; intro g' L' h' FG' F' N' B' X' T' D'; (try dsimp only); (try k_lift B'); (try k_fold)))
section
/-- a call out of the topmost frame (the function called may catch) -/
abbrev Call0 (kk : Nat) (w : World) (p : Program) (loose : List Str) (mean : ExcName → Option Value) (mg mb : Str → Option Value) (f : Addr) (vs : List Value) (R : Value → Prop) : Prop :=
  ∀ (dp un : Nat) (gd : Option (List Code)) (cn : Str) (cs : Scope) (a : Addr) (ccd : Value) (A₀ : Around) (h₀ : Heap) (L : Addr) (m : Str → Option Value) (news : List (Addr × Obj)) (s : Shared) (Q E : Value → Shared → Prop),
    Below A₀ h₀ [] h₀ → Fr h₀ L s.heap m → (Hx.hd.heap_1 w.params).In h₀ → News h₀ L s.heap news → Top p loose mean mg mb h₀ → cs.kind = .function → dp + kk < recursionLimit → un + 8 * kk < cLine →
    (∀ (v : Value) (h' : Heap) (tk' : Nat), R v → Fr h₀ L h' m → News h₀ L h' news → Q v { s with heap := h', toks := tk' }) →
      wpAny (model PySem.Challenge.rw_fc0054_01.row.prog w) (ktrTop dp un gd cn cs L a ccd [] []) (call (.ref f) vs) Q E s
def madeOf (b : Array UInt8) : Option (Array UInt8) := if b.size = 32 ∧ 0 < num b ∧ num b < PR then some b else none
theorem madeOf_none {b : Array UInt8} (h : ¬(b.size = 32 ∧ 0 < num b ∧ num b < 57896044618658097711785492504343953926634992332820282019728792003956564819949)) : madeOf b = none := if_neg h
theorem madeOf_some {b : Array UInt8} (h : b.size = 32 ∧ 0 < num b ∧ num b < 57896044618658097711785492504343953926634992332820282019728792003956564819949) : madeOf b = some b := if_pos h
theorem law_made_ok {w p loose mean mg mb} (b : Array UInt8) (t : Tok) (hb : b.size ≤ 100) :
    Call0 12 w p loose mean mg mb 1300 [.bytes b t] (fun v => match madeOf b with | none => v = .none | some d => ∃ t', v = .bytes d t') := by
  intro dp un gd cn cs a ccd A₀ h₀ L m news s Q E B F X N T hk hd hu hret
  revert X; k_fill; intro X
  refine wpAny_call ?_
  kts_go
  k_steps
  all_goals (try dsimp only [InitBack])
  all_goals (try k_steps)
  all_goals first
    | (refine hret _ _ _ ?_ (by k_asm) (by first | k_asm | (refine news_drop (by assumption) ?_; intro p hp; simp only [List.mem_cons, List.mem_append, hp, or_true, true_or]))
       rw [madeOf_none (by rintro ⟨h1, h2, h3⟩; omega)])
    | (refine hret _ _ _ ?_ (by k_asm) (by first | k_asm | (refine news_drop (by assumption) ?_; intro p hp; simp only [List.mem_cons, List.mem_append, hp, or_true, true_or]))
       rw [madeOf_some (by refine ⟨?_, ?_, ?_⟩ <;> omega)]
       exact ⟨_, rfl⟩)
end
section
local macro_rules | `(tactic| walk_at "no such key") => `(tactic| skip)
local macro_rules | `(tactic| walk_at "no such key") => `(tactic| skip)
local macro_rules | `(tactic| walk_at "no such key") => `(tactic| skip)
local macro_rules | `(tactic| walk_at "no such key") => `(tactic| skip)
local macro_rules | `(tactic| walk_at "no such key") => `(tactic| skip)
local macro_rules | `(tactic| walk_at "no such key") => `(tactic| skip)
local macro_rules | `(tactic| walk_at "no such key") => `(tactic| skip)
local macro_rules | `(tactic| walk_at "no such key") => `(tactic| skip)
local macro_rules | `(tactic| walk_at "no such key") => `(tactic| skip)
local macro_rules | `(tactic| walk_at "no such key") => `(tactic| skip)
local macro_rules | `(tactic| walk_at "no such key") => `(tactic| skip)
local macro_rules | `(tactic| walk_at "no such key") => `(tactic| skip)
theorem net198 {w : World} {h : Heap} (X : (Hx.hd.heap_1 w.params).In h) : h.DictOf (strKind PySem.Challenge.rw_fc0054_01.row.prog w) 198 [(PySem.Str.ofString "main", .ref 199), (PySem.Str.ofString "test", .ref 200), (PySem.Str.ofString "regtest", .ref 201), (PySem.Str.ofString "signet", .ref 202)] := by
  revert X; k_fill; intro X
  have h1 := X 198 _ (by k_is)
  refine ⟨_, _, _, h1, ⟨rfl, rfl, rfl⟩, rfl, ?_, .cons (strKind_is _ _ _ _) rfl (.cons (strKind_is _ _ _ _) rfl (.cons (strKind_is _ _ _ _) rfl (.cons (strKind_is _ _ _ _) rfl .nil))), by decide⟩
  intro e he
  simp only [List.mem_toArray, List.mem_cons, List.not_mem_nil, or_false] at he
  rcases he with rfl | rfl | rfl | rfl
  all_goals exact ⟨_, strKind_is _ _ _ _, rfl⟩
def kvsOf (es : List DictEntry) : List (Str × Value) := es.filterMap fun e => match e.key with | .str x _ => some (x, e.val) | _ => none
theorem pairs_of {prog : Program} {w : World} : ∀ (es : List DictEntry), (∀ e ∈ es, ∃ x t, e.key = .str x t) → Pairs (strKind prog w) es (kvsOf es)
  | [], _ => .nil
  | e :: es, h => by
    obtain ⟨x, t, hx⟩ := h e (List.Mem.head _)
    have e1 : kvsOf (e :: es) = (x, e.val) :: kvsOf es := by
      unfold kvsOf
      rw [List.filterMap_cons, hx]
    rw [e1]
    exact .cons (by rw [hx]; exact strKind_is _ _ _ _) rfl (pairs_of es fun q hq => h q (List.Mem.tail _ hq))
theorem netkeys : List.Nodup [PySem.Str.ofString "name", PySem.Str.ofString "wif", PySem.Str.ofString "p2pkh", PySem.Str.ofString "p2sh", PySem.Str.ofString "bech32", PySem.Str.ofString "xprv", PySem.Str.ofString "xpub", PySem.Str.ofString "yprv", PySem.Str.ofString "zprv", PySem.Str.ofString "Yprv", PySem.Str.ofString "Zprv", PySem.Str.ofString "ypub", PySem.Str.ofString "zpub", PySem.Str.ofString "Ypub", PySem.Str.ofString "Zpub"] := by decide +kernel
theorem net199 {w : World} {h : Heap} (X : (Hx.hd.heap_1 w.params).In h) : ∃ kvs t, h.DictOf (strKind PySem.Challenge.rw_fc0054_01.row.prog w) 199 kvs ∧ valueAt kvs (PySem.Str.ofString "wif") = some (.bytes #[128] t) := by
  revert X; k_fill; intro X
  have h1 := X 199 _ (by k_is)
  obtain ⟨es, hes⟩ : ∃ es, h.get? 199 = some ⟨.type "dict", none, .dict es.toArray 15, #[]⟩ ∧ (∀ e ∈ es, ∃ x t, e.key = .str x t ∧ e.hash = hashStr w x) ∧ ((kvsOf es).map (·.1)).Nodup ∧ ∃ t, valueAt (kvsOf es) (PySem.Str.ofString "wif") = some (.bytes #[128] t) := by
    refine ⟨_, h1, ?_, ?_, ?_⟩
    · intro e he
      simp only [List.mem_cons, List.not_mem_nil, or_false] at he
      rcases he with rfl | rfl | rfl | rfl | rfl | rfl | rfl | rfl | rfl | rfl | rfl | rfl | rfl | rfl | rfl
      all_goals exact ⟨_, _, rfl, rfl⟩
    · exact netkeys
    · exact ⟨_, rfl⟩
  obtain ⟨he1, he2, he3, t, he4⟩ := hes
  refine ⟨_, t, ⟨_, _, _, he1, ⟨rfl, rfl, rfl⟩, rfl, ?_, pairs_of _ fun e he => ?_, he3⟩, he4⟩
  · intro e he
    obtain ⟨x, t, h1, h2⟩ := he2 e (by simpa using he)
    exact ⟨x, by rw [h1]; exact strKind_is _ _ _ _, h2⟩
  · obtain ⟨x, t, h1, h2⟩ := he2 e he
    exact ⟨x, t, h1⟩
theorem net200 {w : World} {h : Heap} (X : (Hx.hd.heap_1 w.params).In h) : ∃ kvs t, h.DictOf (strKind PySem.Challenge.rw_fc0054_01.row.prog w) 200 kvs ∧ valueAt kvs (PySem.Str.ofString "wif") = some (.bytes #[239] t) := by
  revert X; k_fill; intro X
  have h1 := X 200 _ (by k_is)
  obtain ⟨es, hes⟩ : ∃ es, h.get? 200 = some ⟨.type "dict", none, .dict es.toArray 15, #[]⟩ ∧ (∀ e ∈ es, ∃ x t, e.key = .str x t ∧ e.hash = hashStr w x) ∧ ((kvsOf es).map (·.1)).Nodup ∧ ∃ t, valueAt (kvsOf es) (PySem.Str.ofString "wif") = some (.bytes #[239] t) := by
    refine ⟨_, h1, ?_, ?_, ?_⟩
    · intro e he
      simp only [List.mem_cons, List.not_mem_nil, or_false] at he
      rcases he with rfl | rfl | rfl | rfl | rfl | rfl | rfl | rfl | rfl | rfl | rfl | rfl | rfl | rfl | rfl
      all_goals exact ⟨_, _, rfl, rfl⟩
    · exact netkeys
    · exact ⟨_, rfl⟩
  obtain ⟨he1, he2, he3, t, he4⟩ := hes
  refine ⟨_, t, ⟨_, _, _, he1, ⟨rfl, rfl, rfl⟩, rfl, ?_, pairs_of _ fun e he => ?_, he3⟩, he4⟩
  · intro e he
    obtain ⟨x, t, h1, h2⟩ := he2 e (by simpa using he)
    exact ⟨x, by rw [h1]; exact strKind_is _ _ _ _, h2⟩
  · obtain ⟨x, t, h1, h2⟩ := he2 e he
    exact ⟨x, t, h1⟩
theorem net201 {w : World} {h : Heap} (X : (Hx.hd.heap_1 w.params).In h) : ∃ kvs t, h.DictOf (strKind PySem.Challenge.rw_fc0054_01.row.prog w) 201 kvs ∧ valueAt kvs (PySem.Str.ofString "wif") = some (.bytes #[239] t) := by
  revert X; k_fill; intro X
  have h1 := X 201 _ (by k_is)
  obtain ⟨es, hes⟩ : ∃ es, h.get? 201 = some ⟨.type "dict", none, .dict es.toArray 15, #[]⟩ ∧ (∀ e ∈ es, ∃ x t, e.key = .str x t ∧ e.hash = hashStr w x) ∧ ((kvsOf es).map (·.1)).Nodup ∧ ∃ t, valueAt (kvsOf es) (PySem.Str.ofString "wif") = some (.bytes #[239] t) := by
    refine ⟨_, h1, ?_, ?_, ?_⟩
    · intro e he
      simp only [List.mem_cons, List.not_mem_nil, or_false] at he
      rcases he with rfl | rfl | rfl | rfl | rfl | rfl | rfl | rfl | rfl | rfl | rfl | rfl | rfl | rfl | rfl
      all_goals exact ⟨_, _, rfl, rfl⟩
    · exact netkeys
    · exact ⟨_, rfl⟩
  obtain ⟨he1, he2, he3, t, he4⟩ := hes
  refine ⟨_, t, ⟨_, _, _, he1, ⟨rfl, rfl, rfl⟩, rfl, ?_, pairs_of _ fun e he => ?_, he3⟩, he4⟩
  · intro e he
    obtain ⟨x, t, h1, h2⟩ := he2 e (by simpa using he)
    exact ⟨x, by rw [h1]; exact strKind_is _ _ _ _, h2⟩
  · obtain ⟨x, t, h1, h2⟩ := he2 e he
    exact ⟨x, t, h1⟩
theorem net202 {w : World} {h : Heap} (X : (Hx.hd.heap_1 w.params).In h) : ∃ kvs t, h.DictOf (strKind PySem.Challenge.rw_fc0054_01.row.prog w) 202 kvs ∧ valueAt kvs (PySem.Str.ofString "wif") = some (.bytes #[239] t) := by
  revert X; k_fill; intro X
  have h1 := X 202 _ (by k_is)
  obtain ⟨es, hes⟩ : ∃ es, h.get? 202 = some ⟨.type "dict", none, .dict es.toArray 15, #[]⟩ ∧ (∀ e ∈ es, ∃ x t, e.key = .str x t ∧ e.hash = hashStr w x) ∧ ((kvsOf es).map (·.1)).Nodup ∧ ∃ t, valueAt (kvsOf es) (PySem.Str.ofString "wif") = some (.bytes #[239] t) := by
    refine ⟨_, h1, ?_, ?_, ?_⟩
    · intro e he
      simp only [List.mem_cons, List.not_mem_nil, or_false] at he
      rcases he with rfl | rfl | rfl | rfl | rfl | rfl | rfl | rfl | rfl | rfl | rfl | rfl | rfl | rfl | rfl
      all_goals exact ⟨_, _, rfl, rfl⟩
    · exact netkeys
    · exact ⟨_, rfl⟩
  obtain ⟨he1, he2, he3, t, he4⟩ := hes
  refine ⟨_, t, ⟨_, _, _, he1, ⟨rfl, rfl, rfl⟩, rfl, ?_, pairs_of _ fun e he => ?_, he3⟩, he4⟩
  · intro e he
    obtain ⟨x, t, h1, h2⟩ := he2 e (by simpa using he)
    exact ⟨x, by rw [h1]; exact strKind_is _ _ _ _, h2⟩
  · obtain ⟨x, t, h1, h2⟩ := he2 e he
    exact ⟨x, t, h1⟩
def NK : List (Str × Value) := [(PySem.Str.ofString "main", .ref 199), (PySem.Str.ofString "test", .ref 200), (PySem.Str.ofString "regtest", .ref 201), (PySem.Str.ofString "signet", .ref 202)]
theorem val_main : valueAt NK (PySem.Str.ofString "main") = some (.ref 199) := by kernel_rfl
theorem val_test : valueAt NK (PySem.Str.ofString "test") = some (.ref 200) := by kernel_rfl
theorem val_regtest : valueAt NK (PySem.Str.ofString "regtest") = some (.ref 201) := by kernel_rfl
theorem val_signet : valueAt NK (PySem.Str.ofString "signet") = some (.ref 202) := by kernel_rfl
section
variable {w : World} {A : Around} {s : Shared} {h₀ : Heap} {L : Addr} {E Q : Value → Shared → Prop} {m : Str → Option Value} {value slice : Expr} {x : Str} {tt : Tok} {v : Value}
theorem kept_net (F : Fr h₀ L s.heap m) (X : (Hx.hd.heap_1 w.params).In h₀) (hl : valueAt NK x = some v) (h : Q v { s with toks := s.toks + 1 })
    (hs : subscripted slice false (.ref 198) (.str x tt) = operate [.ref 198, .str x tt] (getItem (.ref 198) (.str x tt)) := by with_unfolding_all rfl) (hg : ∀ r, letTemporaryGo value (.ref 198) r = pure () := by intro _; with_unfolding_all rfl) :
    wpAny (model PySem.Challenge.rw_fc0054_01.row.prog w) A (subscriptTail value slice (.ref 198) (.str x tt)) Q E s :=
  have hD := (net198 X).keep F.keep
  subscriptTail_builtin hD.typeIs slot_dict_getitem.lookup (wpAny_getItem_of (strKind_is _ _ _ _) hD.mapOf hl h) hs hg
theorem kept_wif {d : Addr} {c : Array UInt8} (F : Fr h₀ L s.heap m) (D : ∃ kvs t, h₀.DictOf (strKind PySem.Challenge.rw_fc0054_01.row.prog w) d kvs ∧ valueAt kvs (PySem.Str.ofString "wif") = some (.bytes c t)) (h : ∀ t, Q (.bytes c t) { s with toks := s.toks + 1 })
    (hs : subscripted slice false (.ref d) (.str (PySem.Str.ofString "wif") tt) = operate [.ref d, .str (PySem.Str.ofString "wif") tt] (getItem (.ref d) (.str (PySem.Str.ofString "wif") tt)) := by with_unfolding_all rfl) (hg : ∀ r, letTemporaryGo value (.ref d) r = pure () := by intro _; with_unfolding_all rfl) :
    wpAny (model PySem.Challenge.rw_fc0054_01.row.prog w) A (subscriptTail value slice (.ref d) (.str (PySem.Str.ofString "wif") tt)) Q E s := by
  obtain ⟨kvs, t, D, hl⟩ := D
  have hD := D.keep F.keep
  exact subscriptTail_builtin hD.typeIs slot_dict_getitem.lookup (wpAny_getItem_of (strKind_is _ _ _ _) hD.mapOf hl (h t)) hs hg
end
local macro_rules | `(tactic| walk_at "subscriptTail") => `(tactic| (k_here; (with_reducible show wpAny _ _ (subscriptTail _ _ (Value.ref 198) (Value.str _ _)) _ _ _); (with_reducible rename Fr _ _ _ _ => F'); (with_reducible first | refine kept_net F' (by k_asm) val_main ?_ | refine kept_net F' (by k_asm) val_test ?_ | refine kept_net F' (by k_asm) val_regtest ?_ | refine kept_net F' (by k_asm) val_signet ?_); (try dsimp only)))
local macro_rules | `(tactic| walk_at "subscriptTail") => `(tactic| (k_here; (with_reducible show wpAny _ _ (subscriptTail _ _ (Value.ref _) (Value.str (PySem.Str.ofString "wif") _)) _ _ _); (with_reducible rename Fr _ _ _ _ => F'); (with_reducible first | refine kept_wif F' (net199 (by k_asm)) ?_ | refine kept_wif F' (net200 (by k_asm)) ?_ | refine kept_wif F' (net201 (by k_asm)) ?_ | refine kept_wif F' (net202 (by k_asm)) ?_); intro _; (try dsimp only)))
section
variable {prog : Program} {w : World} {A : Around} {s : Shared} {env : Env} {h₀ : Heap} {E : Value → Shared → Prop} {Q : Flow → Shared → Prop} {target : Expr} {body : List Stmt} {m : Str → Option Value} {news : List (Addr × Obj)} {d : Addr} {kvs : List (Str × Value)}
theorem Iter_keptKeys_unr (hh : A.handled = none) (D : h₀.DictOf (strKind prog w) d kvs) (lo : (d == sysModules) = false) (F : Fr h₀ env.locals s.heap m) (N : News h₀ env.locals s.heap news)
    (h : ∀ hI, Unr prog w A E h₀ env target body Q (fun i v => ∃ x dv t, kvs[i]? = some (x, dv) ∧ v = .str x t) [s.heap.objs.size, d] { s with heap := hI } kvs.length 0 m news) :
    wpAny (model prog w) A (pyIter (.ref d)) (fun it s₂ => UnrAt prog w A h₀ env target body Q E it s₂) E s := by
  obtain ⟨ep, hat⟩ := (D.keep F.keep).dictAt
  have hdo : ∃ o, h₀.get? d = some o := let ⟨o, _, _, ho, _⟩ := D; ⟨o, ho⟩
  refine wpAny_pyIter_dict lo hat ?_
  have hne : d ≠ s.heap.objs.size := Nat.ne_of_lt hat.lt_size
  refine ⟨s.heap.objs.size, [s.heap.objs.size, d], [s.heap.objs.size], kvs.length, _, _, m, news, rfl,
    (Walks.dictKeys (knd := strKind prog w) hh _ d hne kvs ep).weaken (P' := fun i v => ∃ x dv t, kvs[i]? = some (x, dv) ∧ v = .str x t) ?_, ?_, ?_, ?_,
    ⟨⟨_, Heap.get?_push_size _ rfl, rfl, rfl⟩, hat.push _⟩, F.push _, fun p hp => ⟨Heap.get?_push_of_some _ (N p hp).1, (N p hp).2⟩, fun i s' v Q' st hQ' => letGo_keyiter st.1 hQ', h _⟩
  · rintro i v ⟨k, xv, hx, hkey⟩
    obtain ⟨t, rfl⟩ := Value.isStrOf_shape hkey
    exact ⟨k, xv, t, hx, rfl⟩
  · intro hm
    rcases List.mem_cons.mp hm with e | hm
    · exact absurd F.ns.lt (e ▸ Nat.lt_irrefl _)
    · exact tab_not_locals F N (.inl hdo) (List.mem_singleton.mp hm).symm
  · intro b hb
    rw [List.mem_singleton.mp hb]
    exact next_is_new F
  · intro p hp hI
    exact absurd (Heap.lt_size (N p hp).1) ((List.mem_singleton.mp hI) ▸ Nat.lt_irrefl _)
end
theorem cutK {M : Model} {A : Around} {st : Sem Flow} {E : Value → Shared → Prop} {Q : Flow → Shared → Prop} {s : Shared} {h₀ h : Heap} {L : Addr} {m : Str → Option Value} {news : List (Addr × Obj)} {nv : Value} (_F : Fr h₀ L h m) (_N : News h₀ L h news)
    (cont : ∀ (h' : Heap) (tk' : Nat) (v : Value), Fr h₀ L h' (fun y => if y = PySem.Str.ofString "network" then some nv else if y = PySem.Str.ofString "net" then some v else m y) → News h₀ L h' news → Q .next { s with heap := h', toks := tk' })
    (main : ∀ Q' : Flow → Shared → Prop, (∀ (h' : Heap) (tk' : Nat) (m' : Str → Option Value), (∃ v, m' (PySem.Str.ofString "net") = some v) → (∀ y, y ≠ PySem.Str.ofString "net" → m' y = if y = PySem.Str.ofString "network" then some nv else m y) → Fr h₀ L h' m' → News h₀ L h' news → Q' .next { s with heap := h', toks := tk' }) → wpAny M A st Q' E s) :
    wpAny M A st Q E s :=
  wpAny_mono (main (fun f s' => f = .next ∧ Q .next s') (fun h' tk' m' e1 e2 F N => by
    obtain ⟨v, e1⟩ := e1
    refine (fun em : m' = (fun y => if y = PySem.Str.ofString "network" then some nv else if y = PySem.Str.ofString "net" then some v else m y) => ⟨rfl, cont h' tk' v (em ▸ F) N⟩) ?_
    funext y
    by_cases hy : y = PySem.Str.ofString "net"
    · rw [hy, e1, if_neg (by decide), if_pos rfl]
    · rw [e2 y hy, if_neg hy])) (fun f s' h => by rw [h.1]; exact h.2) fun _ _ e => e
theorem item_last {prog : Program} {w : World} {A : Around} {E : Value → Shared → Prop} {s : Shared} {value slice : Expr} {b : Array UInt8} {t : Tok} {Q : Value → Shared → Prop} {ui : Tok} (hb : b.size ≤ 100000) (h0 : 0 < b.size) (h : Q (.int (at8 b (b.size - 1) : Int) s.toks) { s with toks := s.toks + 1 })
    (hs : subscripted slice false (.bytes b t) (.int (-1) ui) = operate [.bytes b t, .int (-1) ui] (getItem (.bytes b t) (.int (-1) ui)) := by with_unfolding_all rfl)
    (ht : ∀ r, letTemporaryGo value (.bytes b t) r = pure () := by intro _; with_unfolding_all rfl) :
    wpAny (model prog w) A (subscriptTail value slice (.bytes b t) (.int (-1) ui)) Q E s := by
  refine tail_of_ItemOn ⟨"bytes", _, FB.slot_bytes_getitem.lookup, typeIs_bytes _ _ _, ?_⟩ hs ht
  refine getItem_gives (typeIs_bytes s _ t) (by decide) FB.slot_bytes_getitem FB.entry_bytes_getitem (FB.args_bytes_getitem_2 _ _) (gives_bytes_getitem _ (-1) t ui (b.toList.getD (b.size - 1) 0) ?_ ?_) h
  · simp only [PySem.Builtin.Bytes.fitsIndex, Bool.and_eq_true, decide_eq_true_eq]; omega
  · have : seqIndex? (-1) b.size = some (b.size - 1) := by
      unfold seqIndex?
      have e1 : (if (-1 : Int) < 0 then -1 + (b.size : Int) else -1) = ((b.size - 1 : Nat) : Int) := by rw [if_pos (by decide)]; omega
      rw [e1]
      simp
      omega
    rw [this]
    have hl : b.size - 1 < b.size := by omega
    show b[b.size - 1]? = _
    rw [← Array.getElem?_toList, List.getElem?_eq_getElem (by rw [Array.length_toList]; exact hl), List.getD_eq_getElem?_getD, List.getElem?_eq_getElem (by rw [Array.length_toList]; exact hl)]
    rfl
def netOf (b : Array UInt8) : Value := if first1 b = #[128] then .ref 199 else if first1 b = #[239] then .ref 202 else .none
theorem netA {b : Array UInt8} (h : ((#[128] : Array UInt8).toList == (first1 b).toList) = true) : netOf b = .ref 199 := if_pos (Array.toList_inj.mp (eq_of_beq h).symm)
theorem netB {b : Array UInt8} (h : ((#[128] : Array UInt8).toList == (first1 b).toList) = false) (h2 : ((#[239] : Array UInt8).toList == (first1 b).toList) = true) : netOf b = .ref 202 := by
  rw [netOf, if_neg, if_pos (Array.toList_inj.mp (eq_of_beq h2).symm)]
  intro e
  rw [e] at h
  simp at h
theorem netC {b : Array UInt8} (h : ((#[128] : Array UInt8).toList == (first1 b).toList) = false) (h2 : ((#[239] : Array UInt8).toList == (first1 b).toList) = false) : netOf b = .none := by
  rw [netOf, if_neg, if_neg]
  · intro e
    rw [e] at h2
    simp at h2
  · intro e
    rw [e] at h
    simp at h
theorem netX {b : Array UInt8} (h : ((#[128] : Array UInt8).toList == (first1 b).toList) = true) (h2 : ((#[239] : Array UInt8).toList == (first1 b).toList) = true) : False := by
  rw [← eq_of_beq h] at h2
  simp at h2
theorem raisedSN_of {base G : Heap} {l : List Env} {e : Addr} {cls : Value} {t : Addr} {vs : List Value} {news : List (Addr × Obj)} {h : Heap} (R : RaisedS base G l e cls t vs news h) : RaisedSN base G l e cls news h := by
  obtain ⟨⟨B, h1, h2, h3, h4, _⟩, _⟩ := R
  exact ⟨B, _, h1, h2, h3, h4⟩
def wifOf (x : PySem.Str) : Option (Array UInt8 × Bool × Value) := match decChk x with
  | none => none
  | some b => match keyOf b with
    | none => none
    | some (k, c) => some (k, c, netOf b)
theorem wif_none {x : PySem.Str} {b : Array UInt8} (e : decChk x = some b) (h : ¬((b.size = 33 ∨ (b.size = 34 ∧ at8 b 33 = 1)) ∧ 0 < num (mid32 b) ∧ num (mid32 b) < 57896044618658097711785492504343953926634992332820282019728792003956564819949)) : wifOf x = none := by
  rw [wifOf, e]
  dsimp only
  rw [keyOf_none h]
theorem wif_some {x : PySem.Str} {b : Array UInt8} {c : Bool} (e : decChk x = some b) (h : (b.size = 33 ∨ (b.size = 34 ∧ at8 b 33 = 1)) ∧ 0 < num (mid32 b) ∧ num (mid32 b) < 57896044618658097711785492504343953926634992332820282019728792003956564819949) (hc : decide (b.size = 34) = c) : wifOf x = some (mid32 b, c, netOf b) := by
  rw [wifOf, e]
  dsimp only
  rw [keyOf_some h hc]
/-- a call that gives a new private key or raises -/
abbrev CallW (kk : Nat) (w : World) (p : Program) (loose : List Str) (mean : ExcName → Option Value) (mg mb : Str → Option Value) (f : Addr) (vs : List Value) (R : Option (Array UInt8 × Bool × Value)) : Prop :=
  ∀ (dp un : Nat) (gd : Option (List Code)) (cn : Str) (cs : Scope) (a : Addr) (ccd : Value) (outer : List Env) (A₀ : Around) (base h₀ : Heap) (L : Addr) (m : Str → Option Value) (news : List (Addr × Obj)) (s : Shared) (Q E : Value → Shared → Prop),
    Below A₀ base outer h₀ → Fr h₀ L s.heap m → (Hx.hd.heap_1 w.params).In h₀ → News h₀ L s.heap news → Top p loose mean mg mb h₀ → cs.kind = .function → dp + kk < recursionLimit → un + 8 * kk < cLine →
    (∀ (k : Array UInt8) (c : Bool) (nv : Value) (D x : Addr) (t : Tok) (i1 i2 i3 : Int) (t1 t2 t3 n : Nat) (h' : Heap) (tk' : Nat), R = some (k, c, nv) → Fr h₀ L h' m →
      News h₀ L h' ((x, instObj 1263 D) :: (D, dictOf [⟨i1, .str (PySem.Str.ofString "compressed") t1, .bool c⟩, ⟨i2, .str (PySem.Str.ofString "_secret") t2, .bytes k t⟩, ⟨i3, .str (PySem.Str.ofString "network") t3, nv⟩] n) :: news) → (∀ p ∈ news, p.1 < D) → D < x → Q (.ref x) { s with heap := h', toks := tk' }) →
    (∀ (e : Addr) (cls : Value) (G h' : Heap) (tk' : Nat), R = none ∧ (cls = .type "ValueError" ∨ cls = .ref 923) → Fr h₀ L G m → RaisedSN base G (envOf cn cs L a ccd :: outer) e cls news h' → G.UpToSlots h' → E (.ref e) { s with heap := h', toks := tk' }) →
      codeAny (model PySem.Challenge.rw_fc0054_01.row.prog w) (ktrTop dp un gd cn cs L a ccd [] outer) (.call (.ref f) ⟨vs, []⟩) (fun r s' => match r with | .ok (.ret v) => Q v s' | .ok _ => False | .error e => E e s') s
local macro_rules | `(tactic| walk_at "call ref") => `(tactic| (k_here; k_dflt (show wpAny _ _ (call (Value.ref 139) [Value.str _ _]) _ _ _); refine stopHere ?_))
local macro_rules | `(tactic| walk_at "exec For Name Name cons nil") => `(tactic| (k_here; refine stopHere ?_))
local macro_rules | `(tactic| walk_at "subscriptTail") => `(tactic| (k_here; (with_reducible show wpAny _ _ (subscriptTail _ _ (Value.bytes _ _) (Value.int (-1) _)) _ _ _); refine stopHere ?_))
theorem decChk_size {x : PySem.Str} (hz : ∀ b, dec x = some b → b.size ≤ 104) {b : Array UInt8} (h : decChk x = some b) : b.size ≤ 100 := by
  unfold decChk at h
  split at h
  · cases h
  · rename_i b' hb'
    have := hz b' hb'
    split at h
    · cases h
      rw [but4_size]
      omega
    · cases h
theorem from_wif_ok {w p loose mean mg mb} (x : PySem.Str) (t : Tok) (hx : x.length ≤ 300) (hc : ∀ c ∈ x.cps.toList, c < 128) (hz : ∀ b, dec x = some b → b.size ≤ 104) :
    CallW 16 w p loose mean mg mb 1171 [.ref 1263, .str x t] (wifOf x) := by
  intro dp un gd cn cs a ccd outer A₀ base h₀ L m news s Q E B F X N T hk hd hu hok hexc
  revert X; k_fill; intro X
  have kd : KtsDicts [] base := ktsDicts_nil
  k_dflt cell_enter
  k_steps
  unfold Stop
  refine' useX ?k1 ?k2 ?k3 ?k4 ?k5 ?k6 (decode_check_ok x t hx hc hz) ?k7 ?k8 ?_ ?_
  case k1 => k_asm
  case k2 => k_asm
  case k3 => k_asm
  case k4 => k_asm
  case k5 => k_asm
  case k6 => first | exact rfl | assumption
  case k7 => ktr_room
  case k8 => ktr_units
  · intro v9 h9 tk9 e9 F9 N9
    obtain ⟨b, t9, e9, e8⟩ := e9
    subst e8
    have hb := decChk_size hz e9
    try k_sweep
    try dsimp only
    try k_fold
    k_steps
    unfold Stop
    have hm : (mid32 b).size ≤ 32 := by rw [mid32_size]; omega
    rename Fr _ _ _ _ => kF'
    rename News _ _ _ _ => kN'
    refine cutK (nv := netOf b) kF' kN' ?cont ?main
    case main =>
      intro Q' hQ'
      with_unfolding_all refine' For_unrF kF' ?_ ?ks
      case ks => intro _; with_unfolding_all rfl
      k_steps
      rename Fr _ _ _ _ => kF2
      rename News _ _ _ _ => kN2
      k_dflt (refine Iter_keptKeys_unr (by rfl) (net198 (by k_asm)) (by decide) kF2 kN2 ?_)
      intro _
      k_steps
      all_goals
        rename Fr _ _ _ _ => F9
        rename News _ _ _ _ => N9
        first
          | exact (netX (by assumption) (by assumption)).elim
          | (refine hQ' _ _ _ ⟨_, rfl⟩ (fun y hy => ?_) F9 N9
             dsimp only
             first | rw [netA (b := b) (by assumption)] | rw [netB (b := b) (by assumption) (by assumption)] | rw [netC (b := b) (by assumption) (by assumption)]
             by_cases hn : y = PySem.Str.ofString "network"
             · simp only [if_pos hn, if_neg hy]
             · simp only [if_neg hn, if_neg hy])
    case cont =>
      clear kF' kN'
      intro h8 tk8 v8 F8 N8
      dsimp only
      have hms : (mid32 b).size = min 32 (b.size - 1) := mid32_size b
      have hcut : (b.size = 34 ∧ at8 b (b.size - 1) = at8 b 33) ∨ b.size ≠ 34 := by
        by_cases h : b.size = 34
        · exact .inl ⟨h, by rw [h]⟩
        · exact .inr h
      k_steps
      · unfold Stop
        refine item_last (by omega) (by omega) ?_
        k_steps
        all_goals (try dsimp only [InitBack])
        all_goals (try k_steps)
        all_goals
          rename List.any _ _ = _ => hA
          rw [any33] at hA
          simp only [decide_eq_true_eq, decide_eq_false_iff_not] at hA
        all_goals first
          | (rename RaisedS _ _ _ _ _ _ _ _ _ => hR
             rename Heap.UpToSlots _ _ => hU
             refine hexc _ _ _ _ _ ⟨wif_none e9 ?_, .inr rfl⟩ (by assumption) (raisedSub (raisedSN_of hR) fun q hq => by first | exact hq | exact .tail _ hq | exact .tail _ (.tail _ (.tail _ hq)) | exact .tail _ (.tail _ (.tail _ (.tail _ hq)))) hU
             rintro ⟨h1, h2, h3⟩
             omega)
          | (rename News h₀ _ _ _ => N9
             rename Fr h₀ _ _ _ => F9
             rename _ < _ ∧ AllLt _ _ => hl9
             refine hok (mid32 b) _ (netOf b) _ _ _ _ _ _ _ _ _ _ _ _ (wif_some e9 ?_ ?_) F9 (news_drop N9 (List.forall_mem_cons.mpr ⟨.tail _ (.head _), List.forall_mem_cons.mpr ⟨.tail _ (.tail _ (.head _)), fun p hp => .tail _ (.tail _ (.tail _ (.tail _ hp)))⟩⟩)) (allLt_all hl9.2) (by assumption))
        all_goals first
          | (refine ⟨?_, ?_, ?_⟩ <;> omega)
          | (rw [decide_eq_true_eq]; omega)
      all_goals (try dsimp only [InitBack])
      all_goals (try k_steps)
      all_goals
        rename List.any _ _ = _ => hA
        rw [any33] at hA
        simp only [decide_eq_true_eq, decide_eq_false_iff_not] at hA
      all_goals first
        | (rename RaisedS _ _ _ _ _ _ _ _ _ => hR
           rename Heap.UpToSlots _ _ => hU
           refine hexc _ _ _ _ _ ⟨wif_none e9 ?_, .inr rfl⟩ (by assumption) (raisedSub (raisedSN_of hR) fun q hq => by first | exact hq | exact .tail _ hq | exact .tail _ (.tail _ (.tail _ hq)) | exact .tail _ (.tail _ (.tail _ (.tail _ hq)))) hU
           rintro ⟨h1, h2, h3⟩
           omega)
        | (rename News h₀ _ _ _ => N9
           rename Fr h₀ _ _ _ => F9
           rename _ < _ ∧ AllLt _ _ => hl9
           refine hok (mid32 b) _ (netOf b) _ _ _ _ _ _ _ _ _ _ _ _ (wif_some e9 ?_ ?_) F9 (news_drop N9 (List.forall_mem_cons.mpr ⟨.tail _ (.head _), List.forall_mem_cons.mpr ⟨.tail _ (.tail _ (.head _)), fun p hp => .tail _ (.tail _ (.tail _ (.tail _ hp)))⟩⟩)) (allLt_all hl9.2) (by assumption))
      all_goals first
        | (refine ⟨?_, ?_, ?_⟩ <;> omega)
        | (rw [decide_eq_false_iff_not]; omega)
  · intro e9 cls9 G9 h9 tk9 hb9 F9 R9 U9
    obtain ⟨hb9, hb8⟩ := hb9
    subst hb8
    try dsimp only
    k_steps
    rename RaisedSN _ _ _ _ _ _ _ => hR
    rename Heap.UpToSlots _ _ => hU
    exact hexc _ _ _ _ _ ⟨by rw [wifOf, hb9], .inl rfl⟩ (by assumption) hR hU
end
section
section
variable {kk dp un : Nat} {w : World} {p : Program} {loose : List Str} {mean : ExcName → Option Value} {mg mb : Str → Option Value} {f : Addr} {vs : List Value} {R : Option (Array UInt8 × Bool × Value)} {gd : Option (List Code)} {cn : Str} {cs : Scope} {a : Addr} {ccd : Value} {outer : List Env} {A₀ : Around} {base h₀ : Heap} {L : Addr} {m : Str → Option Value} {news : List (Addr × Obj)} {s : Shared} {Q E : Value → Shared → Prop}
theorem useW (B : Below A₀ base outer h₀) (F : Fr h₀ L s.heap m) (X : (Hx.hd.heap_1 w.params).In h₀) (N : News h₀ L s.heap news) (T : Top p loose mean mg mb h₀) (hk : cs.kind = .function) (C : CallW kk w p loose mean mg mb f vs R) (hd : dp + kk < recursionLimit) (hu : un + 8 * kk < cLine)
    (ok : ∀ (k : Array UInt8) (c : Bool) (nv : Value) (D x : Addr) (t : Tok) (i1 i2 i3 : Int) (t1 t2 t3 n : Nat) (h' : Heap) (tk' : Nat), R = some (k, c, nv) → Fr h₀ L h' m →
      News h₀ L h' ((x, instObj 1263 D) :: (D, dictOf [⟨i1, .str (PySem.Str.ofString "compressed") t1, .bool c⟩, ⟨i2, .str (PySem.Str.ofString "_secret") t2, .bytes k t⟩, ⟨i3, .str (PySem.Str.ofString "network") t3, nv⟩] n) :: news) → (∀ p ∈ news, p.1 < D) → D < x → Q (.ref x) { s with heap := h', toks := tk' })
    (exc : ∀ (e : Addr) (cls : Value) (G h' : Heap) (tk' : Nat), R = none ∧ (cls = .type "ValueError" ∨ cls = .ref 923) → Fr h₀ L G m → RaisedSN base G (envOf cn cs L a ccd :: outer) e cls news h' → G.UpToSlots h' → E (.ref e) { s with heap := h', toks := tk' }) :
    codeAny (model PySem.Challenge.rw_fc0054_01.row.prog w) (ktrTop dp un gd cn cs L a ccd [] outer) (.call (.ref f) ⟨vs, []⟩) (fun r s' => match r with | .ok (.ret v) => Q v s' | .ok _ => False | .error e => E e s') s := C _ _ _ _ _ _ _ _ _ _ _ _ _ _ _ _ _ B F X N T hk hd hu ok exc
end
/-- what a text tells -/
def toldOf (x : PySem.Str) : Option (Array UInt8 × Bool) := match decChk x with
  | none => none
  | some b => keyOf b
theorem told_wif {x : PySem.Str} : toldOf x = (wifOf x).map fun q => (q.1, q.2.1) := by
  unfold toldOf wifOf
  cases decChk x with
  | none => rfl
  | some b =>
    dsimp only
    cases keyOf b with
    | none => rfl
    | some q => rfl
/-- the same as CallT, out of the topmost frame -/
abbrev Call0T (kk : Nat) (w : World) (p : Program) (loose : List Str) (mean : ExcName → Option Value) (mg mb : Str → Option Value) (f : Addr) (vs : List Value) (R : Option (Array UInt8 × Bool)) : Prop :=
  ∀ (dp un : Nat) (gd : Option (List Code)) (cn : Str) (cs : Scope) (a : Addr) (ccd : Value) (A₀ : Around) (h₀ : Heap) (L : Addr) (m : Str → Option Value) (news : List (Addr × Obj)) (s : Shared) (Q E : Value → Shared → Prop),
    Below A₀ h₀ [] h₀ → Fr h₀ L s.heap m → (Hx.hd.heap_1 w.params).In h₀ → News h₀ L s.heap news → Top p loose mean mg mb h₀ → cs.kind = .function → dp + kk < recursionLimit → un + 8 * kk < cLine →
    (R = none → ∀ (h' : Heap) (tk' : Nat), Fr h₀ L h' m → News h₀ L h' news → Q .none { s with heap := h', toks := tk' }) →
    (∀ (k : Array UInt8) (c : Bool) (D : Addr) (t : Tok) (h' : Heap) (tk' : Nat), R = some (k, c) → Fr h₀ L h' m → News h₀ L h' ((D, { cls := .type "tuple", data := .seq #[.bytes k t, .bool c] 0 }) :: news) → (∀ p ∈ news, p.1 < D) → Q (.ref D) { s with heap := h', toks := tk' }) →
      wpAny (model PySem.Challenge.rw_fc0054_01.row.prog w) (ktrTop dp un gd cn cs L a ccd [] []) (call (.ref f) vs) Q E s
local macro_rules | `(tactic| walk_at "call ref") => `(tactic| (k_here; (with_reducible show wpAny _ _ (call (Value.ref _) [Value.str _ _]) _ _ _); (with_reducible rename News _ _ _ _ => kN'); k_dflt (refine call_meth kN' (f := .ref 1171) (self := .ref 1263) (by k_mem) ?_); refine stopHere ?_))
theorem law_told_ok {w p loose mean mg mb} (x : PySem.Str) (t : Tok) (hx : x.length ≤ 300) (hc : ∀ c ∈ x.cps.toList, c < 128) (hz : ∀ b, dec x = some b → b.size ≤ 104) :
    Call0T 20 w p loose mean mg mb 1293 [.str x t] (toldOf x) := by
  intro dp un gd cn cs a ccd A₀ h₀ L m news s Q E B F X N T hk hd hu hnone hsome
  revert X; k_fill; intro X
  refine wpAny_call ?_
  kts_go
  k_steps
  unfold Stop
  refine' useW ?k1 ?k2 ?k3 ?k4 ?k5 ?k6 (from_wif_ok x t hx hc hz) ?k7 ?k8 ?_ ?_
  case k1 => k_asm
  case k2 => k_asm
  case k3 => k_asm
  case k4 => k_asm
  case k5 => k_asm
  case k6 => first | exact rfl | assumption
  case k7 => ktr_room
  case k8 => ktr_units
  · intro k c nv D x9 t9 i1 i2 i3 t1 t2 t3 n9 h9 tk9 hw F9 N9 l9 hlt9
    try k_sweep
    try dsimp only
    try k_fold
    k_steps
    rename News h₀ _ _ _ => N8
    rename Fr h₀ _ _ _ => F8
    rename _ < _ ∧ _ => hlt8
    exact hsome k c _ _ _ _ (by rw [told_wif, hw]; rfl) F8 (news_drop N8 (List.forall_mem_cons.mpr ⟨List.Mem.head _, fun p hp => by simp only [List.mem_cons, List.mem_append, hp, or_true, true_or]⟩)) (by first | exact allLt_all hlt8.2.2 | exact allLt_all hlt8.2.2.2 | exact allLt_all hlt8.2.2.2.2)
  · intro e9 cls9 G9 h9 tk9 hb9 F9 R9 U9
    obtain ⟨hw, hb9 | hb9⟩ := hb9
    · subst hb9
      try dsimp only
      k_steps
      exact hnone (by rw [told_wif, hw]; rfl) _ _ (by k_asm) (by first | k_asm | (refine news_drop (by assumption) ?_; intro p hp; simp only [List.mem_cons, List.mem_append, hp, or_true, true_or]))
    · subst hb9
      try dsimp only
      k_steps
      exact hnone (by rw [told_wif, hw]; rfl) _ _ (by k_asm) (by first | k_asm | (refine news_drop (by assumption) ?_; intro p hp; simp only [List.mem_cons, List.mem_append, hp, or_true, true_or]))
end
local macro_rules | `(tactic| k_enter) => `(tactic| (kp_kind "both"; (fail_if_success k_inElt); (refine' kp_both ?k1 ?k2 ?k3 ?k4 ?k5 ?kA ?kF ?kK ?k6 ?k7 ?k8 ?kV ?kX ?kQ ?kM ?kN ?kD ?kR ?kP ?kS ?kT ?kB ?_ ?c2 ?c3 ?c4 ?c5; (case kA => exact rfl); (case kF => exact rfl); (case kK => first | exact rfl | assumption); (case k1 => k_asm); (case k2 => k_asm); (case k3 => k_asm); (case k4 => k_asm); (case k5 => k_asm); (case k6 => k_is); (case k7 => k_is); (case k8 => k_room); (case kV => kp_lit); (case kX => kp_lit); (case kQ => exact rfl); (case kM => exact rfl); (case kN => exact rfl); (case kD => kp_flats); (case kR => exact rfl); (case kP => exact rfl); (case kS => exact fun _ => rfl); (case kT => exact fun _ _ => rfl); (case kB => exact fun _ _ => locs rfl); (case c5 => decide); (case c2 => exact rfl); (case c3 => exact rfl); (case c4 => exact rfl); k_whole; intro C' D' o' g' L' h' tk' l1 l2 lo' hs' fs' FG' F' N' B' X' T'; (try k_lt l1); (try k_lt2 l2); (try dsimp only); (try k_lift B'); (try k_fold))))
local macro_rules | `(tactic| cell_enter) => `(tactic| (refine' code_def ?k1 ?k2 ?k3 ?k4 ?k5 ?kA ?kF ?kK ?k6 ?k7 ?k8 ?k9 ?kB ?_ ?c2 ?c3 ?c4 ?c5; (case kA => exact rfl); (case kF => exact rfl); (case kK => assumption); (case k1 => k_asm); (case k2 => k_asm); (case k3 => k_asm); (case k4 => k_asm); (case k5 => k_asm); (case k6 => k_is); (case k7 => k_is); (case k8 => ktr_room); (case k9 => first | exact binds_K (by k_in) rfl (by k_is) rfl rfl rfl | exact BindsTo.of_eq rfl); (case c5 => decide); (case kB => exact locs rfl); (case c2 => exact rfl); (case c3 => exact rfl); (case c4 => exact rfl); k_whole; intro g' L' h' FG' F' N' B' X' T'; (try dsimp only); (try k_lift B'); (try k_fold)))
local macro_rules | `(tactic| cell_enter) => `(tactic| (refine' codeN_def ?k1 ?k2 ?k3 ?k4 ?k5 ?kA ?kF ?kK ?k6 ?k7 ?k8 ?k9 ?kB ?_ ?c2 ?c3 ?c4 ?c5; (case kA => exact rfl); (case kF => exact rfl); (case kK => first | exact rfl | assumption); (case k1 => k_asm); (case k2 => k_asm); (case k3 => k_asm); (case k4 => k_asm); (case k5 => k_asm); (case k6 => k_is); (case k7 => k_is); (case k8 => ktr_room); (case k9 => first | exact binds_K (by k_in) rfl (by k_is) rfl rfl rfl | exact BindsTo.of_eq rfl); (case c5 => decide); (case kB => exact locs rfl); (case c2 => exact rfl); (case c3 => exact rfl); (case c4 => exact rfl); k_whole; intro g' L' h' FG' F' N' B' X' T' l1'; (try dsimp only); (try k_lift B')))
local macro_rules | `(tactic| cell_enter) => `(tactic| (refine' codeN_defB ?k1 ?k2 ?k3 ?k4 ?k5 ?kA ?kF ?kK ?k6 ?k7 ?k8 ?kP ?kS ?kT ?kB ?_ ?c2 ?c3 ?c4 ?c5; (case kA => exact rfl); (case kF => exact rfl); (case kK => first | exact rfl | assumption); (case k1 => k_asm); (case k2 => k_asm); (case k3 => k_asm); (case k4 => k_asm); (case k5 => k_asm); (case k6 => k_is); (case k7 => k_is); (case k8 => ktr_room); (case kP => exact rfl); (case kS => exact fun _ => rfl); (case kT => exact fun _ _ => rfl); (case kB => exact fun _ _ => locs rfl); (case c5 => decide); (case c2 => exact rfl); (case c3 => exact rfl); (case c4 => exact rfl); k_whole; intro C' D' g' L' h' tk' l1' l2' FG' F' N' B' X' T'; (try dsimp only); (try k_lift B')))
section
local macro_rules | `(tactic| walk_at "no such key") => `(tactic| skip)
local macro_rules | `(tactic| walk_at "no such key") => `(tactic| skip)
local macro_rules | `(tactic| walk_at "no such key") => `(tactic| skip)
local macro_rules | `(tactic| walk_at "no such key") => `(tactic| skip)
local macro_rules | `(tactic| walk_at "no such key") => `(tactic| skip)
local macro_rules | `(tactic| walk_at "no such key") => `(tactic| skip)
local macro_rules | `(tactic| walk_at "no such key") => `(tactic| skip)
local macro_rules | `(tactic| walk_at "no such key") => `(tactic| skip)
local macro_rules | `(tactic| walk_at "no such key") => `(tactic| skip)
local macro_rules | `(tactic| walk_at "no such key") => `(tactic| skip)
local macro_rules | `(tactic| walk_at "no such key") => `(tactic| skip)
local macro_rules | `(tactic| walk_at "no such key") => `(tactic| skip)
section
variable {w : World} {A : Around} {R : Result → Shared → Prop} {h : Heap} {g : Array GenState} {d : Drawn} {t : Nat} {os : OsState}
theorem bio_looks {M : Model} (hM : M = model PySem.Challenge.rw_fc0054_01.row.prog w) (X : (Hx.hd.heap_1 w.params).In h) :
    Looks M h (Bind.madeBy (.ref 516)) none ∧ Looks M h (Bind.madeHere "object.__new__" (.ref 516)) () ∧ Looks M h (mroOf (.ref 516)) [.ref 516, .ref 274, .ref 259, .type "object"] ∧
    Looks M h (specialOf (.ref 516) "__call__") (some (.builtin "type.__call__")) ∧ Looks M h (isInstance (.ref 516) (.type "type")) true ∧
    Looks M h (typeLookup (.ref 516) "__init__") (some (.ref 303)) ∧ Looks M h (isSubtype (.ref 516) (.ref 516)) true ∧ Looks M h (checkBuiltinCall "object.__new__" ⟨[.ref 516], []⟩) () ∧ Looks M h (isType (.ref 516)) true := by
  subst hM
  revert X; k_fill; intro X
  refine ⟨Looks.of_peek X ?_, Looks.of_peek X ?_, Looks.of_peek X ?_, Looks.of_peek X ?_, Looks.of_peek X ?_, Looks.of_peek X ?_, Looks.of_peek X ?_, Looks.of_peek X ?_, Looks.of_peek X ?_⟩
  all_goals kernel_rfl
theorem bio_there (X : (Hx.hd.heap_1 w.params).In h) (_hM : model PySem.Challenge.rw_fc0054_01.row.prog w = model PySem.Challenge.rw_fc0054_01.row.prog w) : ∃ oc od cd sl, h.get? 516 = some ⟨oc, od, .cls cd, sl⟩ ∧ cd.abstract = false ∧ cd.hasDel = false := by
  revert X _hM; k_fill; intro X _
  exact ⟨_, _, _, _, X 516 _ (by k_is), rfl, rfl⟩
theorem bio_new (X : (Hx.hd.heap_1 w.params).In h) (hq : R (.ok (.ret (.ref (h.objs.size + 1)))) ⟨(h.push emptyDict).push (instObj 516 h.objs.size), g, d, t, os⟩) :
    codeAny (model PySem.Challenge.rw_fc0054_01.row.prog w) A (.call (.builtin "object.__new__") ⟨[.ref 516], []⟩) R ⟨h, g, d, t, os⟩ := by
  obtain ⟨made, here, hm, call, typ, hi, self, chk, ity⟩ := bio_looks (M := model PySem.Challenge.rw_fc0054_01.row.prog w) rfl X
  obtain ⟨oc, od, cd, sl, hC, e1, e2⟩ := bio_there X rfl
  have F := PySem.F.objNew
  refine codeAny_call_builtin_code (Code.quiet_builtin _ F.quiet) ?_
  refine chk.at ?_
  refine codeAny_builtin F.entry ?_
  unfold Builtin.«object.__new__»
  have hC' := Heap.get?_push_of_some (instObj 516 (h.push emptyDict).objs.size.pred) (Heap.get?_push_of_some emptyDict hC)
  have fin : ∀ A', wpAny (model PySem.Challenge.rw_fc0054_01.row.prog w) A' (do
      let d ← if typeHasDict (.ref 516) then some <$> alloc { cls := .type "dict", data := .dict #[] } else pure none
      ret (← newObj (.ref 516) .plain d)) (fun fin s' => match fin with | .done f => R (.ok f) s' | .again c' => c'.quiet = true ∧ codeAny (model PySem.Challenge.rw_fc0054_01.row.prog w) A c' R s') (fun e s' => R (.error e) s') ⟨h, g, d, t, os⟩ := by
    intro A'
    show wpAny _ _ ((alloc emptyDict >>= fun x => pure (some x)) >>= _) _ _ _
    refine wpAny_bind (wpAny_bind (wpAny_alloc (wpAny_pure (wpAny_bind ?_))))
    show wpAny _ _ (newObjAsIs _ _ _) _ _ _
    unfold newObjAsIs classHasDel
    refine wpAny_bind (wpAny_alloc (wpAny_bind (wpAny_bind (wpAny_load (Heap.get?_push_of_some _ (Heap.get?_push_of_some _ hC)) (wpAny_pure ?_)))))
    rw [e2]
    refine wpAny_pure (wpAny_pure ?_)
    show R _ _
    rw [Heap.size_push]
    exact hq
  repeat (first | exact fin _ | with_reducible refine ity.at ?_ | with_reducible refine here.at ?_ | simp only [e1, Bool.false_eq_true, if_false] | lk)
theorem bio_made {h₀ : Heap} {L : Addr} {m : Str → Option Value} {news : List (Addr × Obj)} {s : Shared} {Q E : Value → Shared → Prop} (F : Fr h₀ L s.heap m) (N : News h₀ L s.heap news) (X : (Hx.hd.heap_1 w.params).In s.heap)
    (k : ∀ x dx h', Fr h₀ L h' m → News h₀ L h' ((x, instObj 516 dx) :: (dx, dictOf [] 0) :: news) → (∀ p ∈ news, p.1 < dx) → dx < x → Q (.ref x) { s with heap := h' }) :
    wpAny (model PySem.Challenge.rw_fc0054_01.row.prog w) A (PySem.call (.builtin "object.__new__") [.ref 516]) Q E s := by
  obtain ⟨hh, g, d, t, os⟩ := s
  have N' := (N.push F emptyDict).push (F.push _) (instObj 516 hh.objs.size)
  rw [Heap.size_push] at N'
  exact wpAny_call (bio_new X (k _ hh.objs.size _ ((F.push _).push _) N' (fun p hp => Heap.lt_size (N p hp).1) (Nat.lt_succ_self _)))
end
/-- where a method is called, in the logic of free contexts; no raise -/
abbrev CallMN (kk : Nat) (w : World) (p : Program) (loose : List Str) (mean : ExcName → Option Value) (mg mb : Str → Option Value) (f : Addr) (vs : List Value) (G : List (Addr × Obj) → Prop) (R : Value → Prop) : Prop :=
  ∀ (dp un : Nat) (gd : Option (List Code)) (cn : Str) (cs : Scope) (a : Addr) (ccd : Value) (cl : List (Str × Addr)) (outer : List Env) (A₀ : Around) (base h₀ : Heap) (L : Addr) (m : Str → Option Value) (news : List (Addr × Obj)) (s : Shared) (Q : Value → Shared → Prop),
    Below A₀ base outer h₀ → Fr h₀ L s.heap m → (Hx.hd.heap_1 w.params).In h₀ → News h₀ L s.heap news → G news → Top p loose mean mg mb h₀ → cs.kind = .function → dp + kk < recursionLimit → un + 8 * kk < cLine →
    (∀ (v : Value) (h' : Heap) (tk' : Nat), R v → Fr h₀ L h' m → News h₀ L h' news → Q v { s with heap := h', toks := tk' }) →
      codeN (model PySem.Challenge.rw_fc0054_01.row.prog w) (ktrTop dp un gd cn cs L a ccd cl outer) (.call (.ref f) ⟨vs, []⟩) (fun r s' => match r with | .ok (.ret v) => Q v s' | .ok _ => False | .error _ => False) s
local macro_rules | `(tactic| walk_at "call builtin:object.__new__") => `(tactic| (k_here; refine stopHere ?_))
theorem stopCall {M : Model} {A : Around} {f : Value} {vs : List Value} {kw : List (Str × Value)} {Q E : Value → Shared → Prop} {s : Shared} (h : Stop (wpAny M A (PySem.call f vs kw) Q E s)) : wpAny M A (PySem.call f vs kw) Q E s := h
theorem wpN_load {M : Model} {A : Around} {α : Type} {k : Obj → Sem α} {a : Addr} {p : Option Value} {o : Obj} {Q : α → Shared → Prop} {E : Value → Shared → Prop} {s : Shared} (ho : s.heap.get? a = some o) (h : wpN M A (k o) Q E s) : wpN M A (.load a p k) Q E s :=
  fun Γ q hΓ f => ⟨o, ho, h Γ q hΓ f⟩
/-- a stream: its object, its dict, its buffer -/
abbrev streamL (x D ba : Addr) (b : Array UInt8) (i1 i2 : Int) (t1 t2 t3 : Nat) (k : Int) (news : List (Addr × Obj)) : List (Addr × Obj) :=
  (ba, baObj b) :: (x, instObj 516 D) :: (D, dictOf [⟨i1, .str (PySem.Str.ofString "_BytesIO__buf") t1, .ref ba⟩, ⟨i2, .str (PySem.Str.ofString "_BytesIO__pos") t2, .int k t3⟩] 2) :: news
theorem bio_call {w p loose mean mg mb} :
    ∀ (dp un : Nat) (gd : Option (List Code)) (cn : Str) (cs : Scope) (a : Addr) (ccd : Value) (cl : List (Str × Addr)) (outer : List Env) (A₀ : Around) (base h₀ : Heap) (L : Addr) (m : Str → Option Value) (news : List (Addr × Obj)) (s : Shared) (Q : Value → Shared → Prop),
    Below A₀ base outer h₀ → Fr h₀ L s.heap m → (Hx.hd.heap_1 w.params).In h₀ → News h₀ L s.heap news → Top p loose mean mg mb h₀ → cs.kind = .function → dp + 12 < recursionLimit → un + 8 * 12 < cLine →
    (∀ (x D ba : Addr) (i1 i2 : Int) (t1 t2 t3 : Nat) (h' : Heap) (tk' : Nat), Fr h₀ L h' m → News h₀ L h' (streamL x D ba #[] i1 i2 t1 t2 t3 0 news) → (∀ p ∈ news, p.1 < D) → D < x → x < ba → Q (.ref x) { s with heap := h', toks := tk' }) →
      codeN (model PySem.Challenge.rw_fc0054_01.row.prog w) (ktrTop dp un gd cn cs L a ccd cl outer) (.call (.ref 516) ⟨[], []⟩) (fun r s' => match r with | .ok (.ret v) => Q v s' | .ok _ => False | .error _ => False) s := by
  intro dp un gd cn cs a ccd cl outer A₀ base h₀ L m news s Q B F X N T hk hd hu hret
  obtain ⟨hh, g, d, tk, os⟩ := s
  have X' := X.keeps F.keep
  obtain ⟨made, here, hm, call, typ, hi, self, chk, ity⟩ := bio_looks (M := model PySem.Challenge.rw_fc0054_01.row.prog w) rfl X'
  obtain ⟨oc, od, cd, sl, hC, e1, e2⟩ := bio_there X' rfl
  revert X; k_fill; intro X
  refine codeN_of_tree ?_
  show wpN _ _ (callAny (.ref 516) _) _ _ _
  refine wpN_load hC ?_
  show wpN _ _ (callAny.viaDunder (.ref 516) _) _ _ _
  unfold callAny.viaDunder
  refine wpN_bindA (call.at ?_)
  dsimp only
  rw [tc_bind]
  refine wpN_bind (wpN_pure (wpN_bind (wpN_pure ?_)))
  refine wpN_pure (a := Fin.again (.call (.builtin "type.__call__") ⟨[.ref 516], []⟩)) (And.intro rfl (And.intro rfl ?_))
  refine codeN_of_tree ?_
  show wpN _ _ (do checkBuiltinCall "type.__call__" ⟨[.ref 516], []⟩; again (.builtin "type.__call__" ⟨[.ref 516], []⟩)) _ _ _
  refine wpN_bindA (check_slot tc_kind tc_split typ (tc_args _ _ _) ?_)
  refine wpN_pure (And.intro (Code.quiet_builtin _ (by decide +kernel)) (And.intro rfl (codeN_builtin entry_typeCall ?_)))
  unfold Builtin.«type.__call__»
  dsimp only
  rw [if_neg (show ¬ ((Value.ref 516 == Value.type "type") = true) from by decide)]
  refine wpN_bindA (hm.at ?_)
  dsimp only [List.isEmpty]
  simp only [Bool.false_eq_true, if_false]
  refine wpN_bindA (made.at ?_)
  dsimp only
  refine wpN_bindA ?_
  clear call typ hm made here self chk ity hi
  k_steps
  refine wpN_bindA (wpAny_holding ?_)
  k_steps
  unfold Stop
  rename Fr _ _ _ _ => F5
  rename News _ _ _ _ => N5
  refine bio_made F5 N5 (by k_in) ?_
  intro x9 D9 h9 F9 N9 l9 lx9
  have lx9 := ltN lx9
  k_steps
  have K9 : (Hx.hd.heap_1 w.params).In h9 := by k_in
  have hx : h9.get? x9 = some (instObj 516 D9) := (N9 _ (.head _)).1
  obtain ⟨_, _, _, _, _, hi9, self9, _, _⟩ := bio_looks (M := model PySem.Challenge.rw_fc0054_01.row.prog w) rfl K9
  have t1 : Looks (model PySem.Challenge.rw_fc0054_01.row.prog w) h9 (typeOf (.ref x9)) (.ref 516) := (Looks.ld hx).andThen .now
  have b1 := bind_fn (M := model PySem.Challenge.rw_fc0054_01.row.prog w) K9 (.ref x9) (f := 303) (by k_is)
  have i1 : Looks (model PySem.Challenge.rw_fc0054_01.row.prog w) h9 (isInstance (.ref x9) (.ref 516)) true := t1.andThen self9
  have p1 : Looks (model PySem.Challenge.rw_fc0054_01.row.prog w) h9 (specialOf (.ref x9) "__init__") (some (.ref 303)) := t1.andThen hi9
  refine wpN_bindA (i1.at ?_)
  simp only [Bool.not_true, Bool.false_eq_true, if_false]
  refine wpN_bind (wpN_holding ?_)
  unfold callSpecial?
  refine wpN_bindA (p1.at ?_)
  dsimp only
  refine wpN_holding (wpN_bindA (b1.at ?_))
  refine wpN_bind (wpN_call ?_)
  clear hi9 self9 t1 b1 i1 p1 hx X'
  rename News h₀ _ _ _ => kN1
  have kN2 := news_drop kN1 (a := (x9, instObj 516 D9) :: (D9, dictOf [] 0) :: news) (by intro p hp; simp only [List.mem_cons] at hp ⊢; rcases hp with hp | hp | hp <;> simp only [hp, true_or, or_true])
  have l9' : ∀ p ∈ news, p.1 < D9 := fun p hp => l9 p (.tail _ (.tail _ hp))
  clear kN1 N9 l9
  dsimp only [List.append]
  k_dflt cell_enter
  refine N_execs_consA ?_
  k_steps
  refine N_execs_cons (N_Assign_Attribute (N_IfExp (wpN_any ?_)))
  k_steps
  refine N_CallName ?_
  k_steps
  refine N_callType0 ?_
  rename Fr _ _ _ _ => F5
  rename News _ _ _ _ => N5
  refine N_bytearray0 F5 N5 ?_
  intro h8 F8 N8 l8
  dsimp only at N8 l8 ⊢
  k_lt l8
  k_steps
  refine N_execs_consA ?_
  k_steps
  refine N_execs_nil ?_
  dsimp only
  k_steps
  refine wpN_pure ?_
  dsimp only
  simp only [bne_self_eq_false, Bool.false_eq_true, if_false]
  refine wpN_pure ?_
  dsimp only
  rename News h₀ _ _ _ => N7
  rename Fr h₀ _ _ _ => F7
  exact hret x9 D9 _ _ _ _ _ _ _ _ F7 N7 l9' lx9 l8.1
end
section
local macro_rules | `(tactic| walk_at "call type:type") => `(tactic| (k_here; (with_reducible show wpAny _ _ (call (Value.type "type") [Value.bytes _ _]) _ _ _); k_dflt (refine call_type_of (typeIs_bytes _ _ _) (by decide) ?_)))
local macro_rules | `(tactic| walk_at "call builtin:len") => `(tactic| (k_here; (with_reducible show wpAny _ _ (call (Value.builtin "len") [Value.ref _]) _ _ _); (with_reducible rename News _ _ _ _ => N'); k_dflt (refine len_ba (News.get N' (by k_mem)) (by first | exact Nat.zero_le _ | omega) ?_)))
theorem write_call {w p loose mean mg mb} (x D ba : Addr) (b : Array UInt8) (t : Tok) (hb0 : 0 < b.size) (hb1 : b.size ≤ 100) :
    ∀ (dp un : Nat) (gd : Option (List Code)) (cn : Str) (cs : Scope) (a : Addr) (ccd : Value) (cl : List (Str × Addr)) (outer : List Env) (A₀ : Around) (base h₀ : Heap) (L : Addr) (m : Str → Option Value) (news : List (Addr × Obj)) (s : Shared) (Q : Value → Shared → Prop)
      (i1 i2 : Int) (t1 t2 t3 : Nat),
    Below A₀ base outer h₀ → Fr h₀ L s.heap m → (Hx.hd.heap_1 w.params).In h₀ → News h₀ L s.heap (streamL x D ba #[] i1 i2 t1 t2 t3 0 news) → (∀ p ∈ news, p.1 < D) → D < x → x < ba → Top p loose mean mg mb h₀ → cs.kind = .function → dp + 12 < recursionLimit → un + 8 * 12 < cLine →
    (∀ (t3' : Nat) (h' : Heap) (tk' : Nat) (r : Int) (tr : Tok), Fr h₀ L h' m → News h₀ L h' (streamL x D ba b i1 i2 t1 t2 t3' b.size news) → Q (.int r tr) { s with heap := h', toks := tk' }) →
      codeN (model PySem.Challenge.rw_fc0054_01.row.prog w) (ktrTop dp un gd cn cs L a ccd cl outer) (.call (.ref 499) ⟨[.ref x, .bytes b t], []⟩) (fun r s' => match r with | .ok (.ret v) => Q v s' | .ok _ => False | .error _ => False) s := by
  intro dp un gd cn cs a ccd cl outer A₀ base h₀ L m news s Q i1 i2 t1 t2 t3 B F X N hl hDx hxb T hk hd hu hret
  have hDx := ltN hDx
  have hxb := ltN hxb
  revert X; k_fill; intro X
  k_dflt cell_enter
  refine N_execs_consA ?_
  k_steps
  refine N_execs_consA ?_
  k_steps
  refine N_execs_consA ?_
  k_steps
  refine N_execs_consA ?_
  k_steps
  · exfalso
    omega
  dsimp only
  refine N_execs_consA ?_
  k_steps
  refine N_execs_consA ?_
  k_steps
  refine N_execs_consA ?_
  k_steps
  refine N_execs_cons (N_Assign_Subscript ?_)
  k_steps
  rename Fr _ _ _ _ => F5
  rename News _ _ _ _ => N5
  have hlt5 := ltN (Heap.lt_size (N5 _ (List.Mem.head _)).1)
  refine N_setslice (g := fun o' => _ :: (ba, o') :: _) ?_ (F5.push _) (News.push F5 N5 (slObj _ _)) (.tail ?_ (.head ?_)) (List.Mem.head _) ?_ ?_
  · omega
  · exact Nat.ne_of_gt hlt5
  · intro p hp
    rcases List.mem_cons.mp hp with rfl | hp
    · exact Nat.ne_of_lt hxb
    rcases List.mem_cons.mp hp with rfl | hp
    · exact Nat.ne_of_lt (Nat.lt_trans hDx hxb)
    · exact Nat.ne_of_lt (Nat.lt_trans (hl p hp) (Nat.lt_trans hDx hxb))
  · rw [sizeLine_eq]
    omega
  intro h8 F8 N8
  have N7 := news_drop N8 (fun p hp => List.Mem.tail _ hp)
  clear N8
  dsimp only
  refine N_execs_consA ?_
  k_steps
  refine N_execs_consA ?_
  k_steps
  rename News h₀ _ _ _ => N9
  rename Fr h₀ _ _ _ => F9
  simp only [Int.zero_add] at N9
  exact hret _ _ _ _ _ F9 N9
end
section
local macro_rules | `(tactic| walk_at "no such key") => `(tactic| skip)
local macro_rules | `(tactic| walk_at "no such key") => `(tactic| skip)
local macro_rules | `(tactic| walk_at "no such key") => `(tactic| skip)
local macro_rules | `(tactic| walk_at "no such key") => `(tactic| skip)
local macro_rules | `(tactic| walk_at "no such key") => `(tactic| skip)
local macro_rules | `(tactic| walk_at "no such key") => `(tactic| skip)
local macro_rules | `(tactic| walk_at "no such key") => `(tactic| skip)
local macro_rules | `(tactic| walk_at "no such key") => `(tactic| skip)
local macro_rules | `(tactic| walk_at "no such key") => `(tactic| skip)
local macro_rules | `(tactic| walk_at "no such key") => `(tactic| skip)
local macro_rules | `(tactic| walk_at "no such key") => `(tactic| skip)
local macro_rules | `(tactic| walk_at "no such key") => `(tactic| skip)
local macro_rules | `(tactic| walk_at "call type:bytes") => `(tactic| (k_here; (with_reducible show wpAny _ _ (call (Value.type "bytes") [Value.ref _]) _ _ _); (with_reducible rename News _ _ _ _ => N'); k_dflt (refine call_bytes_ba (News.get N' (by k_mem)) (by rw [sizeLine_eq]; omega) ?_); intro _ _))
section
variable {w : World} {p : Program} {loose : List Str} {mean : ExcName → Option Value} {mg mb : Str → Option Value} {f : Addr} {vs : List Value} {R : Value → Prop} {dp un : Nat} {gd : Option (List Code)} {cn : Str} {cs : Scope} {a : Addr} {ccd : Value} {cl : List (Str × Addr)} {outer : List Env} {A₀ : Around} {base h₀ : Heap} {L : Addr} {m : Str → Option Value} {news : List (Addr × Obj)} {s : Shared} {Q E : Value → Shared → Prop} {kk : Nat}
theorem useMN {G : List (Addr × Obj) → Prop} (B : Below A₀ base outer h₀) (F : Fr h₀ L s.heap m) (X : (Hx.hd.heap_1 w.params).In h₀) (N : News h₀ L s.heap news) (T : Top p loose mean mg mb h₀) (hk : cs.kind = .function) (C : CallMN kk w p loose mean mg mb f vs G R) (g : G news) (hd : dp + kk < recursionLimit) (hu : un + 8 * kk < cLine)
    (ret : ∀ (v : Value) (h' : Heap) (tk' : Nat), R v → Fr h₀ L h' m → News h₀ L h' news → Q v { s with heap := h', toks := tk' }) :
    wpN (model PySem.Challenge.rw_fc0054_01.row.prog w) (ktrTop dp un gd cn cs L a ccd cl outer) (call (.ref f) vs) Q E s := wpN_noE (wpN_call (C _ _ _ _ _ _ _ _ _ _ _ _ _ _ _ _ _ B F X N g T hk hd hu ret))
theorem useBio (B : Below A₀ base outer h₀) (F : Fr h₀ L s.heap m) (X : (Hx.hd.heap_1 w.params).In h₀) (N : News h₀ L s.heap news) (T : Top p loose mean mg mb h₀) (hk : cs.kind = .function) (hd : dp + 12 < recursionLimit) (hu : un + 8 * 12 < cLine)
    (ret : ∀ (x D ba : Addr) (i1 i2 : Int) (t1 t2 t3 : Nat) (h' : Heap) (tk' : Nat), Fr h₀ L h' m → News h₀ L h' (streamL x D ba #[] i1 i2 t1 t2 t3 0 news) → (∀ p ∈ news, p.1 < D) → D < x → x < ba → Q (.ref x) { s with heap := h', toks := tk' }) :
    wpN (model PySem.Challenge.rw_fc0054_01.row.prog w) (ktrTop dp un gd cn cs L a ccd cl outer) (call (.ref 516) []) Q E s := wpN_noE (wpN_call (bio_call _ _ _ _ _ _ _ _ _ _ _ _ _ _ _ _ _ B F X N T hk hd hu ret))
theorem useWrite {x D ba : Addr} {b : Array UInt8} {t : Tok} {i1 i2 : Int} {t1 t2 t3 : Nat} (B : Below A₀ base outer h₀) (F : Fr h₀ L s.heap m) (X : (Hx.hd.heap_1 w.params).In h₀) (N : News h₀ L s.heap (streamL x D ba #[] i1 i2 t1 t2 t3 0 news))
    (hl : ∀ p ∈ news, p.1 < D) (hDx : D < x) (hxb : x < ba) (T : Top p loose mean mg mb h₀) (hk : cs.kind = .function) (hb0 : 0 < b.size) (hb1 : b.size ≤ 100) (hd : dp + 12 < recursionLimit) (hu : un + 8 * 12 < cLine)
    (ret : ∀ (t3' : Nat) (h' : Heap) (tk' : Nat) (r : Int) (tr : Tok), Fr h₀ L h' m → News h₀ L h' (streamL x D ba b i1 i2 t1 t2 t3' b.size news) → Q (.int r tr) { s with heap := h', toks := tk' }) :
    wpN (model PySem.Challenge.rw_fc0054_01.row.prog w) (ktrTop dp un gd cn cs L a ccd cl outer) (call (.ref 499) [.ref x, .bytes b t]) Q E s := wpN_noE (wpN_call (write_call x D ba b t hb0 hb1 _ _ _ _ _ _ _ _ _ _ _ _ _ _ _ _ _ _ _ _ _ _ B F X N hl hDx hxb T hk hd hu ret))
end
/-- a key with the secret k -/
def IsKey (x : Addr) (k : Array UInt8) (c : Bool) (nv : Value) (news : List (Addr × Obj)) : Prop := ∃ D i1 i2 i3 t t1 t2 t3 n, (x, instObj 1263 D) ∈ news ∧
  (D, dictOf [⟨i1, .str (PySem.Str.ofString "compressed") t1, .bool c⟩, ⟨i2, .str (PySem.Str.ofString "_secret") t2, .bytes k t⟩, ⟨i3, .str (PySem.Str.ofString "network") t3, nv⟩] n) ∈ news
theorem ser_key {w p loose mean mg mb} (x : Addr) (k : Array UInt8) (c : Bool) (nv : Value) (hk32 : k.size = 32) :
    CallMN 40 w p loose mean mg mb 806 [.ref x] (IsKey x k c nv) (fun v => ∃ t', v = .bytes k t') := by
  intro dp un gd cn cs a ccd cl outer A₀ base h₀ L m news s Q B F X N G T hk hd hu hret
  obtain ⟨D, i1, i2, i3, t, t1, t2, t3, n, G1, G2⟩ := G
  revert X; k_fill; intro X
  k_dflt cell_enter
  refine N_execs_cons (N_Assign_Name (N_CallName ?_))
  k_steps
  rename ∀ p ∈ news, p.1 < _ => l5
  rename _ < _ => l6
  refine N_callWith (keeps_K (K := Hx.hd.heap_1 w.params) (by k_is)) (evalArgs_nil3 ⟨by k_in, ?_⟩)
  rename Fr _ _ _ (fun y => List.lookup y _) => F5
  rename News _ _ _ ((_, dictOf [] 0) :: _) => N5
  k_dflt (refine useBio (by k_asm) F5 (by k_in) N5 (by k_asm) rfl (by ktr_room) (by ktr_units) ?_)
  intro x8 D8 b8 i81 i82 t81 t82 t83 h8 tk8 F8 N8 l8 l81 l82
  have l6 := ltN l6
  clear F5 N5
  k_steps
  refine N_execs_cons (N_Expr (N_method rfl rfl ?_))
  k_steps
  refine calleeOf_many rfl ?_
  k_steps
  rename Fr _ _ _ _ => F5
  rename News _ _ _ ((_, methodObj _ _) :: _) => N5
  refine N_callWith (keeps_M (K := Hx.hd.heap_1 w.params) (f := 1242) (self := .ref x) (by k_is)) (evalArgs_kwstar F5 N5 rfl rfl ?_)
  k_steps
  · k_asm
  · k_asm
  refine arg_here ?_
  k_steps
  have lx := ltN (l5 _ G1)
  · show _ ≠ 1
    dsimp only at lx
    exact Nat.ne_of_gt (Nat.lt_of_le_of_lt (Nat.succ_le_of_lt (Nat.lt_of_le_of_lt (Nat.zero_le _) lx)) l6)
  · rename News _ _ _ _ => N7
    exact N7.get (by k_mem)
  · rename News _ _ _ _ => N7
    exact N7.get (by k_mem)
  rename News _ _ _ _ => N7
  refine N_call_meth (N7.get (by k_mem)) ?_
  have N6 := news_drop N7 (fun p hp => List.Mem.tail _ (List.Mem.tail _ hp))
  clear N7
  k_dflt cell_enter
  refine N_execs_cons (N_Return (N_method rfl rfl ?_))
  k_steps
  refine calleeOf_few rfl ?_
  k_steps
  refine N_callWith (keeps_K (K := Hx.hd.heap_1 w.params) (by k_is)) (evalArgs_pl rfl rfl ?_)
  k_steps
  rename News _ _ _ _ => N8
  rename Fr _ _ _ _ => F8
  k_dflt (refine useWrite (by k_asm) F8 (by k_in) N8 l8 l81 l82 (by k_asm) rfl (by omega) (by omega) (by ktr_room) (by ktr_units) ?_)
  intro t3' h6 tk6 r6 tr6 F6 N9
  clear F8 N8 N6
  dsimp only
  k_steps
  refine N_execs_consA ?_
  k_steps
  rename News h₀ _ _ _ => N5'
  rename Fr h₀ _ _ _ => F5'
  exact hret _ _ _ ⟨_, rfl⟩ F5' (news_drop N5' (by intro p hp; simp only [List.mem_cons, List.mem_append, hp, or_true, true_or]))
end
section
/-- a signature of octets k -/
def IsSig (x : Addr) (k : Array UInt8) (news : List (Addr × Obj)) : Prop := ∃ D i1 t t1 n, (x, instObj 959 D) ∈ news ∧ (D, dictOf [⟨i1, .str (PySem.Str.ofString "_sig") t1, .bytes k t⟩] n) ∈ news
local macro_rules | `(tactic| walk_at "call type:bytes") => `(tactic| (k_here; (with_reducible show wpAny _ _ (call (Value.type "bytes") [Value.ref _]) _ _ _); (with_reducible rename News _ _ _ _ => N'); k_dflt (refine call_bytes_ba (News.get N' (by k_mem)) (by rw [sizeLine_eq]; simp; omega) ?_); intro _ _))
theorem ser_sig {w p loose mean mg mb} (x : Addr) (k : Array UInt8) (hk32 : k.size = 32) :
    CallMN 40 w p loose mean mg mb 806 [.ref x] (IsSig x k) (fun v => ∃ t', v = .bytes (#[48, 32] ++ k) t') := by
  intro dp un gd cn cs a ccd cl outer A₀ base h₀ L m news s Q B F X N G T hk hd hu hret
  obtain ⟨D, i1, t, t1, n, G1, G2⟩ := G
  revert X; k_fill; intro X
  k_dflt cell_enter
  refine N_execs_cons (N_Assign_Name (N_CallName ?_))
  k_steps
  rename ∀ p ∈ news, p.1 < _ => l5
  rename _ < _ => l6
  refine N_callWith (keeps_K (K := Hx.hd.heap_1 w.params) (by k_is)) (evalArgs_nil3 ⟨by k_in, ?_⟩)
  rename Fr _ _ _ (fun y => List.lookup y _) => F5
  rename News _ _ _ ((_, dictOf [] 0) :: _) => N5
  k_dflt (refine useBio (by k_asm) F5 (by k_in) N5 (by k_asm) rfl (by ktr_room) (by ktr_units) ?_)
  intro x8 D8 b8 i81 i82 t81 t82 t83 h8 tk8 F8 N8 l8 l81 l82
  have l6 := ltN l6
  clear F5 N5
  k_steps
  refine N_execs_cons (N_Expr (N_method rfl rfl ?_))
  k_steps
  refine calleeOf_many rfl ?_
  k_steps
  rename Fr _ _ _ _ => F5
  rename News _ _ _ ((_, methodObj _ _) :: _) => N5
  refine N_callWith (keeps_M (K := Hx.hd.heap_1 w.params) (f := 946) (self := .ref x) (by k_is)) (evalArgs_kwstar F5 N5 rfl rfl ?_)
  k_steps
  · k_asm
  · k_asm
  refine arg_here ?_
  k_steps
  have lx := ltN (l5 _ G1)
  · show _ ≠ 1
    dsimp only at lx
    exact Nat.ne_of_gt (Nat.lt_of_le_of_lt (Nat.succ_le_of_lt (Nat.lt_of_le_of_lt (Nat.zero_le _) lx)) l6)
  · rename News _ _ _ _ => N7
    exact N7.get (by k_mem)
  · rename News _ _ _ _ => N7
    exact N7.get (by k_mem)
  rename News _ _ _ _ => N7
  refine N_call_meth (N7.get (by k_mem)) ?_
  have N6 := news_drop N7 (fun p hp => List.Mem.tail _ (List.Mem.tail _ hp))
  clear N7
  k_dflt cell_enter
  refine N_execs_cons (N_Return (N_method rfl rfl ?_))
  k_steps
  refine calleeOf_few rfl ?_
  k_steps
  refine N_callWith (keeps_K (K := Hx.hd.heap_1 w.params) (by k_is)) (evalArgs_pl rfl rfl ?_)
  k_steps
  rename News _ _ _ _ => N8
  rename Fr _ _ _ _ => F8
  k_dflt (refine useWrite (by k_asm) F8 (by k_in) N8 l8 l81 l82 (by k_asm) rfl (by simp; omega) (by simp; omega) (by ktr_room) (by ktr_units) ?_)
  intro t3' h6 tk6 r6 tr6 F6 N9
  clear F8 N8 N6
  dsimp only
  k_steps
  refine N_execs_consA ?_
  k_steps
  rename News h₀ _ _ _ => N5'
  rename Fr h₀ _ _ _ => F5'
  exact hret _ _ _ ⟨_, rfl⟩ F5' (news_drop N5' (by intro p hp; simp only [List.mem_cons, List.mem_append, hp, or_true, true_or]))
end
section
local macro_rules | `(tactic| walk_at "no such key") => `(tactic| skip)
local macro_rules | `(tactic| walk_at "no such key") => `(tactic| skip)
local macro_rules | `(tactic| walk_at "no such key") => `(tactic| skip)
local macro_rules | `(tactic| walk_at "no such key") => `(tactic| skip)
local macro_rules | `(tactic| walk_at "no such key") => `(tactic| skip)
local macro_rules | `(tactic| walk_at "no such key") => `(tactic| skip)
local macro_rules | `(tactic| walk_at "no such key") => `(tactic| skip)
local macro_rules | `(tactic| walk_at "no such key") => `(tactic| skip)
local macro_rules | `(tactic| walk_at "no such key") => `(tactic| skip)
local macro_rules | `(tactic| walk_at "no such key") => `(tactic| skip)
local macro_rules | `(tactic| walk_at "no such key") => `(tactic| skip)
local macro_rules | `(tactic| walk_at "no such key") => `(tactic| skip)
theorem key_notmod {M : Model} {w : World} {h : Heap} (hM : M = model PySem.Challenge.rw_fc0054_01.row.prog w) (X : (Hx.hd.heap_1 w.params).In h) : Looks M h (isSubtype (.ref 1263) (.type "module")) false := by
  subst hM
  revert X; k_fill; intro X
  refine Looks.of_peek X ?_
  kernel_rfl
theorem key_eq {w p loose mean mg mb} (x y : Addr) (k k2 : Array UInt8) (c c2 : Bool) (nv nv2 : Value) (hk1 : k.size = 32) (hk2 : k2.size = 32) :
    CallMN 60 w p loose mean mg mb 837 [.ref x, .ref y] (fun news => IsKey x k c nv news ∧ IsKey y k2 c2 nv2 news) (fun v => v = .bool (k.toList == k2.toList)) := by
  intro dp un gd cn cs a ccd cl outer A₀ base h₀ L m news s Q B F X N G T hk hd hu hret
  obtain ⟨G1, G2⟩ := G
  have G1' := G1
  have G2' := G2
  obtain ⟨D, i1, i2, i3, t, t1, t2, t3, n, G3, G4⟩ := G1'
  obtain ⟨D', j1, j2, j3, u, u1, u2, u3, n', G5, G6⟩ := G2'
  revert X; k_fill; intro X
  k_dflt cell_enter
  refine N_execs_consA ?_
  k_steps
  rename Fr _ _ _ _ => F5
  rename News _ _ _ _ => N5
  refine hasattr2 (C := 1263) ((Looks.ld (News.get N5 (by k_mem : (y, instObj 1263 D') ∈ _))).andThen .now) (key_notmod rfl (by k_in)) ?_
  k_dflt (refine' asks_bound F5 ?k2 N5 ?k4 ?k5 ?k6 ?k7 ?k8 ?k9 ?k10 ?k11 ?k12 ?_; (case k4 => k_inst); (case k2 => k_asm); (case k7 => k_is); (case k5 => k_is); (case k6 => k_is); (case k8 => k_is); (case k9 => k_is); (case k10 => k_is); (case k11 => decide +kernel); (case k12 => k_get))
  intro q8 h8 F8 N8 l8
  have N7 := news_drop N8 (fun p hp => List.Mem.tail _ hp)
  clear N8 F5 N5
  k_steps
  dsimp only
  refine N_execs_cons (N_Return (N_Compare1 (N_method rfl rfl ?_)))
  k_steps
  refine calleeOf_few rfl ?_
  k_steps
  rename Fr _ _ _ _ => F5
  rename News _ _ _ _ => N5
  refine N_callWith (keeps_K (K := Hx.hd.heap_1 w.params) (by k_is)) (evalArgs_nil3 ⟨by k_in, ?_⟩)
  k_dflt (refine useMN (by k_asm) F5 (by k_in) N5 (by k_asm) rfl (ser_key x k c nv hk1) G1 (by ktr_room) (by ktr_units) ?_)
  intro v8 h7 tk7 R7 F7 N6
  obtain ⟨tt, rfl⟩ := R7
  clear F5 N5
  refine N_method rfl rfl ?_
  k_steps
  refine calleeOf_few rfl ?_
  k_steps
  rename Fr _ _ _ _ => F5
  rename News _ _ _ _ => N5
  refine N_callWith (keeps_K (K := Hx.hd.heap_1 w.params) (by k_is)) (evalArgs_nil3 ⟨by k_in, ?_⟩)
  k_dflt (refine useMN (by k_asm) F5 (by k_in) N5 (by k_asm) rfl (ser_key y k2 c2 nv2 hk2) G2 (by ktr_room) (by ktr_units) ?_)
  intro v8 h7 tk7 R7 F7 N6
  obtain ⟨tt, rfl⟩ := R7
  clear F5 N5
  refine wpN_any ?_
  k_steps
  rename News h₀ _ _ _ => N4'
  rename Fr h₀ _ _ _ => F4'
  exact hret _ _ _ rfl F4' N4'
theorem key_ne {w p loose mean mg mb} (x y : Addr) (k k2 : Array UInt8) (c c2 : Bool) (nv nv2 : Value) (hk1 : k.size = 32) (hk2 : k2.size = 32) :
    CallMN 70 w p loose mean mg mb 844 [.ref x, .ref y] (fun news => IsKey x k c nv news ∧ IsKey y k2 c2 nv2 news) (fun v => v = .bool (!(k.toList == k2.toList))) := by
  intro dp un gd cn cs a ccd cl outer A₀ base h₀ L m news s Q B F X N G T hk hd hu hret
  obtain ⟨G1, G2⟩ := G
  have G1' := G1
  have G2' := G2
  obtain ⟨D, i1, i2, i3, t, t1, t2, t3, n, G3, G4⟩ := G1'
  obtain ⟨D', j1, j2, j3, u, u1, u2, u3, n', G5, G6⟩ := G2'
  revert X; k_fill; intro X
  k_dflt cell_enter
  refine N_execs_cons (N_Return (N_Unary (N_method rfl rfl ?_)))
  k_steps
  refine calleeOf_few rfl ?_
  k_steps
  refine N_callWith (keeps_K (K := Hx.hd.heap_1 w.params) (by k_is)) (evalArgs_pl rfl rfl ?_)
  k_steps
  rename Fr _ _ _ _ => F5
  rename News _ _ _ _ => N5
  k_dflt (refine useMN (by k_asm) F5 (by k_in) N5 (by k_asm) rfl (key_eq x y k k2 c c2 nv nv2 hk1 hk2) ⟨G1, G2⟩ (by ktr_room) (by ktr_units) ?_)
  intro v8 h7 tk7 R7 F7 N6
  subst R7
  clear F5 N5
  k_steps
  rename News h₀ _ _ _ => N4'
  rename Fr h₀ _ _ _ => F4'
  exact hret _ _ _ rfl F4' N4'
end
local macro_rules | `(tactic| walk_at "call type:bytes") => `(tactic| (k_here; (with_reducible show wpAny _ _ (call (Value.type _) [Value.ref _]) _ _ _); k_dflt (refine' bytes_K ?F ?N ?l ?i ?r ?z ?h ?_; (case F => k_asm); (case N => k_asm); (case l => is_list); (case i => first | l_ints | l_intsW); (case r => by_in); (case z => first | size_fits | (simp only [sizeLine_eq, List.length_cons, List.length_nil]; decide)); (case h => with_unfolding_all rfl); k_whole); intro h' t' k' F' N' hB'; clear hB'; (try dsimp only [List.map]); (try k_sweep)))
section
/-- the point of a secret -/
def ptOf (k : Array UInt8) : Array UInt8 := oct 32 (((num k : Int) * 47962653777612059811531418077271348761744880276845910084186123193600379925034).fmod 57896044618658097711785492504343953926634992332820282019728792003956564819949).toNat
/-- the serialized point -/
def lowOf (n : Int) : Array UInt8 := oct 32 ((if 57896044618658097711785492504343953926634992332820282019728792003956564819949 - n < n then 57896044618658097711785492504343953926634992332820282019728792003956564819949 - n else n).fmod 57896044618658097711785492504343953926634992332820282019728792003956564819949).toNat
def secOf (k : Array UInt8) (c : Bool) : Array UInt8 :=
  if c then (if 2 * (num (ptOf k) : Int) < 57896044618658097711785492504343953926634992332820282019728792003956564819949 then #[(Int.toNat 2).toUInt8] else #[(Int.toNat 3).toUInt8]) ++ lowOf (num (ptOf k))
  else #[4] ++ lowOf (num (ptOf k)) ++ ptOf k
theorem secOf_f {k : Array UInt8} {c : Bool} (hc : c = false) : secOf k c = #[4] ++ lowOf (num (ptOf k)) ++ ptOf k := by
  subst hc
  exact if_neg Bool.false_ne_true
theorem ptOf_size (k : Array UInt8) : (ptOf k).size = 32 := oct_size _ _
theorem number_ok {w p loose mean mg mb} (b : Array UInt8) (t : Tok) (hb : b.size ≤ 100) :
    CallP 5 w p loose mean mg mb 146 [.bytes b t] (fun v => ∃ t', v = .int (num b) t') := by
  intro dp un gd cn cs a ccd cl outer A₀ base h₀ L m news s Q E B F X N T hk hd hu hret
  revert X; k_fill; intro X
  refine wpAny_call ?_
  k_dflt cell_enter
  k_steps
  exact hret _ _ _ ⟨_, rfl⟩ (by k_asm) (by first | k_asm | (refine news_drop (by assumption) ?_; intro p hp; simp only [List.mem_cons, hp, or_true]))
local macro_rules | `(tactic| walk_at "call ref") => `(tactic| (k_here; k_dflt (show wpAny _ _ (call (Value.ref 146) [Value.bytes _ _]) _ _ _); k_dflt (refine' useP ?k1 ?k2 ?k3 ?k4 ?k5 ?k6 (number_ok _ _ ?kz) ?k7 ?k8 ?_; (case k1 => k_asm); (case k2 => k_asm); (case k3 => k_asm); (case k4 => k_asm); (case k5 => k_asm); (case k6 => first | exact rfl | assumption); (case k7 => ktr_room); (case k8 => ktr_units); (case kz => first | omega | (simp; done) | (simp; omega))); (intro v9 h9 tk9 e9 F9 N9; obtain ⟨t9, e9⟩ := e9; subst e9); (try k_sweep); (try dsimp only); (try k_fold)))
theorem create_ok {w p loose mean mg mb} (b : Array UInt8) (t : Tok) (hb : b.size ≤ 100) :
    CallP 10 w p loose mean mg mb 167 [.bytes b t] (fun v => ∃ t', v = .bytes (ptOf b) t') := by
  intro dp un gd cn cs a ccd cl outer A₀ base h₀ L m news s Q E B F X N T hk hd hu hret
  revert X; k_fill; intro X
  refine wpAny_call ?_
  k_dflt cell_enter
  k_steps
  exact hret _ _ _ ⟨_, rfl⟩ (by k_asm) (by first | k_asm | (refine news_drop (by assumption) ?_; intro p hp; simp only [List.mem_cons, hp, or_true]))
local macro_rules | `(tactic| walk_at "call ref") => `(tactic| (k_here; k_dflt (show wpAny _ _ (call (Value.ref 167) [Value.bytes _ _]) _ _ _); k_dflt (refine' useP ?k1 ?k2 ?k3 ?k4 ?k5 ?k6 (create_ok _ _ ?kz) ?k7 ?k8 ?_; (case k1 => k_asm); (case k2 => k_asm); (case k3 => k_asm); (case k4 => k_asm); (case k5 => k_asm); (case k6 => first | exact rfl | assumption); (case k7 => ktr_room); (case k8 => ktr_units); (case kz => first | omega | (simp; done) | (simp; omega))); (intro v9 h9 tk9 e9 F9 N9; obtain ⟨t9, e9⟩ := e9; subst e9); (try k_sweep); (try dsimp only); (try k_fold)))
theorem key_sec {w p loose mean mg mb} (x : Addr) (k : Array UInt8) (c : Bool) (nv : Value) (hk1 : k.size = 32) :
    CallG 40 w p loose mean mg mb 1149 [.ref x] (IsKey x k c nv) (fun v => ∃ t', v = .bytes (secOf k c) t') := by
  intro dp un gd cn cs a ccd cl outer A₀ base h₀ L m news s Q E B F X N G T hk hd hu hret
  obtain ⟨D, i1, i2, i3, t, t1, t2, t3, n, G1, G2⟩ := G
  have hpt := ptOf_size k
  revert X; k_fill; intro X
  refine wpAny_call ?_
  k_dflt cell_enter
  k_steps
  · rename _ < (57896044618658097711785492504343953926634992332820282019728792003956564819949 : Int) => hlt
    rename c = true => hc
    exact hret _ _ _ ⟨_, by unfold secOf; rw [if_pos hc, if_pos hlt]; rfl⟩ (by k_asm) (by first | k_asm | (refine news_drop (by assumption) ?_; intro p hp; simp only [List.mem_cons, hp, or_true]))
  · rename ¬ (_ < (57896044618658097711785492504343953926634992332820282019728792003956564819949 : Int)) => hlt
    rename c = true => hc
    exact hret _ _ _ ⟨_, by unfold secOf; rw [if_pos hc, if_neg hlt]; rfl⟩ (by k_asm) (by first | k_asm | (refine news_drop (by assumption) ?_; intro p hp; simp only [List.mem_cons, hp, or_true]))
  · rename c = false => hc
    exact hret _ _ _ ⟨_, by rw [secOf_f hc]; rfl⟩ (by k_asm) (by first | k_asm | (refine news_drop (by assumption) ?_; intro p hp; simp only [List.mem_cons, hp, or_true]))
end
local macro_rules | `(tactic| walk_at "call ref") => `(tactic| (k_here; k_dflt (show wpAny _ _ (call (Value.ref 146) [Value.bytes _ _]) _ _ _); k_dflt (refine' useP ?k1 ?k2 ?k3 ?k4 ?k5 ?k6 (number_ok _ _ ?kz) ?k7 ?k8 ?_; (case k1 => k_asm); (case k2 => k_asm); (case k3 => k_asm); (case k4 => k_asm); (case k5 => k_asm); (case k6 => first | exact rfl | assumption); (case k7 => ktr_room); (case k8 => ktr_units); (case kz => first | omega | (simp; done) | (simp; omega))); (intro v9 h9 tk9 e9 F9 N9; obtain ⟨t9, e9⟩ := e9; subst e9); (try k_sweep); (try dsimp only); (try k_fold)))
local macro_rules | `(tactic| walk_at "call ref") => `(tactic| (k_here; k_dflt (show wpAny _ _ (call (Value.ref 167) [Value.bytes _ _]) _ _ _); k_dflt (refine' useP ?k1 ?k2 ?k3 ?k4 ?k5 ?k6 (create_ok _ _ ?kz) ?k7 ?k8 ?_; (case k1 => k_asm); (case k2 => k_asm); (case k3 => k_asm); (case k4 => k_asm); (case k5 => k_asm); (case k6 => first | exact rfl | assumption); (case k7 => ktr_room); (case k8 => ktr_units); (case kz => first | omega | (simp; done) | (simp; omega))); (intro v9 h9 tk9 e9 F9 N9; obtain ⟨t9, e9⟩ := e9; subst e9); (try k_sweep); (try dsimp only); (try k_fold)))
local macro_rules | `(tactic| walk_at "call ref") => `(tactic| (k_here; k_dflt (show wpAny _ _ (call (Value.ref 1149) [Value.ref _]) _ _ _); k_dflt (refine' useG ?k1 ?k2 ?k3 ?k4 ?k5 ?k6 (key_sec _ _ _ _ ?kz) ?kG ?k7 ?k8 ?_; (case k1 => k_asm); (case k2 => k_asm); (case k3 => k_asm); (case k4 => k_asm); (case k5 => k_asm); (case k6 => first | exact rfl | assumption); (case kG => assumption); (case k7 => ktr_room); (case k8 => ktr_units); (case kz => assumption)); (intro v9 h9 tk9 e9 F9 N9; obtain ⟨t9, e9⟩ := e9; subst e9); (try k_sweep); (try dsimp only); (try k_fold)))
local macro_rules | `(tactic| walk_at "compareOp Gt") => `(tactic| (k_here; (with_reducible show wpAny _ _ (compareOp CmpOp.Gt (Value.bytes _ _) (Value.bytes _ _)) _ _ _); (refine gt_bytes ?_)))
local macro_rules | `(tactic| walk_at "compareOp Lt") => `(tactic| (k_here; (with_reducible show wpAny _ _ (compareOp CmpOp.Lt (Value.bytes _ _) (Value.bytes _ _)) _ _ _); (refine lt_bytes ?_)))
section
local macro_rules | `(tactic| walk_at "no such key") => `(tactic| skip)
local macro_rules | `(tactic| walk_at "no such key") => `(tactic| skip)
local macro_rules | `(tactic| walk_at "no such key") => `(tactic| skip)
local macro_rules | `(tactic| walk_at "no such key") => `(tactic| skip)
local macro_rules | `(tactic| walk_at "no such key") => `(tactic| skip)
local macro_rules | `(tactic| walk_at "no such key") => `(tactic| skip)
local macro_rules | `(tactic| walk_at "no such key") => `(tactic| skip)
local macro_rules | `(tactic| walk_at "no such key") => `(tactic| skip)
local macro_rules | `(tactic| walk_at "no such key") => `(tactic| skip)
local macro_rules | `(tactic| walk_at "no such key") => `(tactic| skip)
local macro_rules | `(tactic| walk_at "no such key") => `(tactic| skip)
local macro_rules | `(tactic| walk_at "no such key") => `(tactic| skip)
theorem key_gt {w p loose mean mg mb} (x y : Addr) (k k2 : Array UInt8) (c c2 : Bool) (nv nv2 : Value) (hk1 : k.size = 32) (hk2 : k2.size = 32) :
    CallG 50 w p loose mean mg mb 901 [.ref x, .ref y] (fun news => IsKey x k c nv news ∧ IsKey y k2 c2 nv2 news) (fun v => v = .bool (gtB (secOf k c) (secOf k2 c2))) := by
  intro dp un gd cn cs a ccd cl outer A₀ base h₀ L m news s Q E B F X N G T hk hd hu hret
  obtain ⟨G1, G2⟩ := G
  have G1' := G1
  have G2' := G2
  obtain ⟨D, i1, i2, i3, t, t1, t2, t3, n, G3, G4⟩ := G1'
  obtain ⟨D', j1, j2, j3, u, u1, u2, u3, n', G5, G6⟩ := G2'
  revert X; k_fill; intro X
  refine wpAny_call ?_
  k_dflt cell_enter
  k_steps
  rename News h₀ _ _ _ => N4'
  rename Fr h₀ _ _ _ => F4'
  exact hret _ _ _ rfl F4' N4'
theorem key_lt {w p loose mean mg mb} (x y : Addr) (k k2 : Array UInt8) (c c2 : Bool) (nv nv2 : Value) (hk1 : k.size = 32) (hk2 : k2.size = 32) :
    CallG 50 w p loose mean mg mb 894 [.ref x, .ref y] (fun news => IsKey x k c nv news ∧ IsKey y k2 c2 nv2 news) (fun v => v = .bool (ltB (secOf k c) (secOf k2 c2))) := by
  intro dp un gd cn cs a ccd cl outer A₀ base h₀ L m news s Q E B F X N G T hk hd hu hret
  obtain ⟨G1, G2⟩ := G
  have G1' := G1
  have G2' := G2
  obtain ⟨D, i1, i2, i3, t, t1, t2, t3, n, G3, G4⟩ := G1'
  obtain ⟨D', j1, j2, j3, u, u1, u2, u3, n', G5, G6⟩ := G2'
  revert X; k_fill; intro X
  refine wpAny_call ?_
  k_dflt cell_enter
  k_steps
  rename News h₀ _ _ _ => N4'
  rename Fr h₀ _ _ _ => F4'
  exact hret _ _ _ rfl F4' N4'
end
section
/-- the signature of a message -/
def sigOf (b k : Array UInt8) : Array UInt8 := oct 32 (((num b : Int) * (num k : Int)).fmod 57896044618658097711785492504343953926634992332820282019728792003956564819949).toNat
theorem key_sign {w p loose mean mg mb} (x : Addr) (k : Array UInt8) (c : Bool) (nv : Value) (hk1 : k.size = 32) (b : Array UInt8) (tb : Tok) (hb : b.size = 32) :
    ∀ (dp un : Nat) (gd : Option (List Code)) (cn : Str) (cs : Scope) (a : Addr) (ccd : Value) (cl : List (Str × Addr)) (outer : List Env) (A₀ : Around) (base h₀ : Heap) (L : Addr) (m : Str → Option Value) (news : List (Addr × Obj)) (s : Shared) (Q : Value → Shared → Prop),
    Below A₀ base outer h₀ → Fr h₀ L s.heap m → (Hx.hd.heap_1 w.params).In h₀ → News h₀ L s.heap news → IsKey x k c nv news → Top p loose mean mg mb h₀ → cs.kind = .function → dp + 60 < recursionLimit → un + 8 * 60 < cLine →
    (∀ (y D : Addr) (i1 : Int) (t t1 n : Nat) (h' : Heap) (tk' : Nat), Fr h₀ L h' m → News h₀ L h' ((y, instObj 959 D) :: (D, dictOf [⟨i1, .str (PySem.Str.ofString "_sig") t1, .bytes (sigOf b k) t⟩] n) :: news) → (∀ p ∈ news, p.1 < D) → D < y → Q (.ref y) { s with heap := h', toks := tk' }) →
      codeN (model PySem.Challenge.rw_fc0054_01.row.prog w) (ktrTop dp un gd cn cs L a ccd cl outer) (.call (.ref 1214) ⟨[.ref x, .bytes b tb], []⟩) (fun r s' => match r with | .ok (.ret v) => Q v s' | .ok _ => False | .error _ => False) s := by
  intro dp un gd cn cs a ccd cl outer A₀ base h₀ L m news s Q B F X N G T hk hd hu hret
  obtain ⟨D, i1, i2, i3, t, t1, t2, t3, n, G1, G2⟩ := G
  revert X; k_fill; intro X
  k_dflt cell_enter
  refine N_execs_consA ?_
  k_steps
  refine N_execs_cons (N_If (wpN_any ?_))
  k_steps
  refine N_execs_consA ?_
  k_steps
  refine N_execs_cons (N_While_off (N_isTrue_Compare1 (N_CallName ?_)))
  k_steps
  refine N_callWithN keeps_builtin (N_evalArgs1 rfl rfl ?_)
  rw [if_neg Bool.false_ne_true]
  refine N_method rfl rfl ?_
  k_steps
  refine calleeOf_few rfl ?_
  k_steps
  rename Fr _ _ _ _ => F5
  rename News _ _ _ _ => N5
  refine N_callWith (keeps_K (K := Hx.hd.heap_1 w.params) (by k_is)) (evalArgs_nil3 ⟨by k_in, ?_⟩)
  have hsg : (sigOf b k).size = 32 := oct_size _ _
  k_dflt (refine useMN (by k_asm) F5 (by k_in) N5 (by k_asm) rfl (ser_sig _ (sigOf b k) hsg) ⟨_, _, _, _, _, by k_mem, by k_mem⟩ (by ktr_room) (by ktr_units) ?_)
  intro v8 h7 tk7 R7 F7 N6
  obtain ⟨tt, rfl⟩ := R7
  clear F5 N5
  refine ⟨trivial, wpN_any ?_⟩
  have hsz : (#[48, 32] ++ sigOf b k).size = 34 := by rw [Array.size_append, hsg]; rfl
  revert hsz
  generalize #[48, 32] ++ sigOf b k = bb
  intro hsz
  show wpAny _ _ (call (Value.builtin "len") [Value.bytes bb tt]) _ _ _
  refine len_bytes (by omega) ?_
  rw [hsz]
  refine wpN_any ?_
  k_steps
  refine wpN_any (gt_int ?_)
  refine wpN_any ?_
  k_steps
  dsimp only
  refine N_execs_nil ?_
  dsimp only
  refine N_execs_consA ?_
  k_steps
  rename News h₀ _ _ _ => N4'
  rename Fr h₀ _ _ _ => F4'
  rename ∀ p ∈ news, p.1 < _ => hl5
  rename _ < _ => hl6
  exact hret _ _ _ _ _ _ _ _ F4' N4' hl5 hl6
end
section
local macro_rules | `(tactic| walk_at "no such key") => `(tactic| skip)
local macro_rules | `(tactic| walk_at "no such key") => `(tactic| skip)
local macro_rules | `(tactic| walk_at "no such key") => `(tactic| skip)
local macro_rules | `(tactic| walk_at "no such key") => `(tactic| skip)
local macro_rules | `(tactic| walk_at "no such key") => `(tactic| skip)
local macro_rules | `(tactic| walk_at "no such key") => `(tactic| skip)
local macro_rules | `(tactic| walk_at "no such key") => `(tactic| skip)
local macro_rules | `(tactic| walk_at "no such key") => `(tactic| skip)
local macro_rules | `(tactic| walk_at "no such key") => `(tactic| skip)
local macro_rules | `(tactic| walk_at "no such key") => `(tactic| skip)
local macro_rules | `(tactic| walk_at "no such key") => `(tactic| skip)
local macro_rules | `(tactic| walk_at "no such key") => `(tactic| skip)
/-- a signature's answer -/
def verOf (σ b k : Array UInt8) : Bool := (((num σ : Int) * 47962653777612059811531418077271348761744880276845910084186123193600379925034 - (num b : Int) * (num (ptOf k) : Int)).fmod 57896044618658097711785492504343953926634992332820282019728792003956564819949 == 0)
theorem key_verify {w p loose mean mg mb} (x y : Addr) (k σ : Array UInt8) (c : Bool) (nv : Value) (hk1 : k.size = 32) (hs1 : σ.size = 32) (b : Array UInt8) (tb : Tok) (hb : b.size = 32) :
    CallG 60 w p loose mean mg mb 1228 [.ref x, .ref y, .bytes b tb] (fun news => IsKey x k c nv news ∧ IsSig y σ news) (fun v => v = .bool (verOf σ b k)) := by
  intro dp un gd cn cs a ccd cl outer A₀ base h₀ L m news s Q E B F X N G T hk hd hu hret
  obtain ⟨⟨D, i1, i2, i3, t, t1, t2, t3, n, G3, G4⟩, ⟨D', j1, u, u1, n', G5, G6⟩⟩ := G
  have hpt := ptOf_size k
  revert X; k_fill; intro X
  refine wpAny_call ?_
  k_dflt cell_enter
  k_steps
  rename News h₀ _ _ _ => N4'
  rename Fr h₀ _ _ _ => F4'
  exact hret _ _ _ rfl F4' (news_drop N4' (by intro p hp; simp only [List.mem_cons, hp, or_true]))
end
local macro_rules | `(tactic| walk_at "subscriptTail") => `(tactic| (k_here; (with_reducible show wpAny _ _ (subscriptTail _ _ (Value.ref 198) (Value.str _ _)) _ _ _); (with_reducible rename Fr _ _ _ _ => F'); (with_reducible first | refine kept_net F' (by k_asm) val_main ?_ | refine kept_net F' (by k_asm) val_test ?_ | refine kept_net F' (by k_asm) val_regtest ?_ | refine kept_net F' (by k_asm) val_signet ?_); (try dsimp only)))
local macro_rules | `(tactic| walk_at "subscriptTail") => `(tactic| (k_here; (with_reducible show wpAny _ _ (subscriptTail _ _ (Value.ref _) (Value.str (PySem.Str.ofString "wif") _)) _ _ _); (with_reducible rename Fr _ _ _ _ => F'); (with_reducible first | refine kept_wif F' (net199 (by k_asm)) ?_ | refine kept_wif F' (net200 (by k_asm)) ?_ | refine kept_wif F' (net201 (by k_asm)) ?_ | refine kept_wif F' (net202 (by k_asm)) ?_); intro _; (try dsimp only)))
section
local macro_rules | `(tactic| walk_at "inplaceOp Add") => `(tactic| (k_here; (with_reducible show wpAny _ _ (inplaceOp Operator.Add (Value.bytes _ _) (Value.bytes _ _)) _ _ _); (refine iadd_bytes (by first | omega | (simp; done) | (simp; omega)) ?_); intro _ _))
local macro_rules | `(tactic| walk_at "call ref") => `(tactic| (k_here; k_dflt (show wpAny _ _ (call (Value.ref 132) [Value.bytes _ _]) _ _ _); k_dflt (refine' useP ?k1 ?k2 ?k3 ?k4 ?k5 ?k6 (encode_check_ok _ _ ?kz) ?k7 ?k8 ?_; (case k1 => k_asm); (case k2 => k_asm); (case k3 => k_asm); (case k4 => k_asm); (case k5 => k_asm); (case k6 => first | exact rfl | assumption); (case k7 => ktr_room); (case k8 => ktr_units); (case kz => first | omega | (simp; done) | (simp; omega))); (intro v9 h9 tk9 e9 F9 N9; obtain ⟨t9, e9⟩ := e9; subst e9); (try k_sweep); (try dsimp only); (try k_fold)))
theorem key_wif {w p loose mean mg mb} (x : Addr) (k : Array UInt8) (pre : Array UInt8) (nv : Value) (hk1 : k.size = 32) (hn : (nv = .ref 199 ∧ pre = #[128]) ∨ (nv = .ref 202 ∧ pre = #[239])) :
    CallG 60 w p loose mean mg mb 1134 [.ref x] (IsKey x k true nv) (fun v => ∃ t', v = .str (encCheck (pre ++ k ++ #[1])) t') := by
  intro dp un gd cn cs a ccd cl outer A₀ base h₀ L m news s Q E B F X N G T hk hd hu hret
  obtain ⟨D, i1, i2, i3, t, t1, t2, t3, n, G3, G4⟩ := G
  obtain ⟨rfl, rfl⟩ | ⟨rfl, rfl⟩ := hn
  all_goals (revert X; k_fill; intro X)
  all_goals (refine wpAny_call ?_)
  all_goals (k_dflt cell_enter)
  all_goals k_steps
  all_goals (rename News h₀ _ _ _ => N4')
  all_goals (rename Fr h₀ _ _ _ => F4')
  all_goals exact hret _ _ _ ⟨_, rfl⟩ F4' (news_drop N4' fun p hp => List.Mem.tail _ hp)
end
section
/-- the topmost def entered, among free contexts -/
theorem call_fullN {prog : Program} {w : World} {A : Around} {R : Result → Shared → Prop} {s : Shared} {name : Str} {params : Arguments} {body : List Stmt} {scope : Scope}
    {dV kV pm cd doc : Value} {a : Addr} {o : Obj} {args : Args} {binds : List (Str × Value)}
    (hroom : A.depth < recursionLimit) (ho : s.heap.get? a = some o) (hdata : o.data = .func { docDef name params body scope pm cd doc with defaults := dV, kwdefaults := kV }) (hlim : s.heap.NoLimit) (hcd : s.heap.CodeRec cd name)
    (hbind : BindsTo s { docDef name params body scope pm cd doc with defaults := dV, kwdefaults := kV } args binds)
    (hloc : ∀ x ∈ binds, scope.names.lookup x.1 = some .local)
    (h : ∀ h₁, Fr s.heap s.heap.objs.size h₁ (fun x => binds.reverse.lookup x) →
      wpN (model prog w) (A.deeper (envOf name scope s.heap.objs.size a cd)) (execs body (envOf name scope s.heap.objs.size a cd))
        (fun f s' => R (.ok (.ret (match f with | .ret v => v | _ => .none))) s') (fun _ _ => False)
        { s with heap := h₁, toks := s.toks + binds.length })
    (hco : scope.isCoroutine = false := by rfl) (hgen : scope.isGenerator = false := by rfl) (hk : scope.kind = .function := by rfl)
    (hcell : ∀ x ∈ scope.names, x.2 ≠ .cell := by decide) :
    codeN (model prog w) A (.call (.ref a) args) R s :=
  codeN_call_function hroom ho hdata hco hgen rfl hcd (hbind _ _ _ _ (wpAny_newFunctionEnv hcell hloc (fun h₁ hns hsb => ⟨hlim.fresh _ hsb, codeN_func (h h₁ ⟨hns, fun b o e => hsb.extBut b o (Nat.ne_of_lt (Heap.lt_size e)) (Heap.get?_push_of_some _ e), Nat.le_refl _⟩)⟩) hk))
theorem goodT {c : ClaimW} {cl : Str → Option Addr} {mean : ExcName → Option Value} {args : List WData} {s₁ s' : Shared} (hn : ∀ cls, c.raises args cls = false) (hp : c.post args (.bool true) args = true)
    (hk : ∀ b o, s₁.heap.get? b = some o → s'.heap.get? b = some o) (hos : s'.os = s₁.os) (hg : s'.gens = #[]) : GoodWG c cl mean args s₁ (.ok (.ret (.bool true))) s' :=
  GoodW.toG ⟨.inl ⟨_, _, _, rfl, hn, .bool true, hp, unshared_nil⟩, hk, hos, hg⟩
/-- how the walk goes on behind the law's entry -/
theorem enterN {prog : Program} {w : World} {f : Value} {vs : List Value} {s : Shared} {c : ClaimW} {cl : Str → Option Addr} {mean : ExcName → Option Value} {args : List WData}
    (hn : ∀ cls, c.raises args cls = false) (hp : c.post args (.bool true) args = true) (hg : s.gens = #[])
    (h : codeN (model prog w) callerA (.call f ⟨vs, []⟩) (fun r s' => r = .ok (.ret (.bool true)) ∧ (∀ b o, s.heap.get? b = some o → s'.heap.get? b = some o) ∧ s'.os = s.os ∧ s'.gens = #[]) s) :
    GoodWG c cl mean args s (.ok (.ret (.bool true))) s ∧ wpN (model prog w) callerA (call f vs) (fun v s' => GoodWG c cl mean args s (.ok (.ret v)) s') (fun e s' => GoodWG c cl mean args s (.error e) s') s := by
  refine ⟨goodT hn hp (fun _ _ e => e) rfl hg, wpN_call (codeN_mono h fun r s' z => ?_)⟩
  obtain ⟨rfl, h1, h2, h3⟩ := z
  exact goodT hn hp h1 h2 h3
end
section
section
variable {prog : Program} {w : World} {A : Around} {E : Value → Shared → Prop} {s : Shared} {env : Env} {h₀ : Heap} {L : Addr} {m : Str → Option Value} {news : List (Addr × Obj)}
theorem Fr.eqv {h : Heap} {m' : Str → Option Value} (F : Fr h₀ L h m) (e : ∀ y, m' y = m y) : Fr h₀ L h m' := by
  have : m' = m := funext e
  rw [this]
  exact F
theorem Fr.name {h : Heap} {x : Str} {v : Value} (F : Fr h₀ L h m) (e : m x = some v) : Fr h₀ L h (fun y => if y = x then some v else m y) :=
  Fr.eqv F fun y => by
    by_cases h : y = x
    · rw [if_pos h, h, e]
    · rw [if_neg h]
/-- a frame under another map of the same names -/
def FrA (h₀ : Heap) (L : Addr) (m : Str → Option Value) (h : Heap) (g : Str → Option Value) : Prop := Fr h₀ L h g ∧ ∀ y, g y = m y
theorem FrA.start {h : Heap} (F : Fr h₀ L h m) : FrA h₀ L m h m := ⟨F, fun _ => rfl⟩
theorem FrA.name {h : Heap} {g : Str → Option Value} {x : Str} {v : Value} (F : FrA h₀ L m h g) (e : m x = some v) : FrA h₀ L m h (fun y => if y = x then some v else g y) :=
  ⟨Fr.name F.1 ((F.2 x).trans e), fun y => by
    by_cases h : y = x
    · exact (if_pos h).trans (h ▸ e.symm)
    · exact (if_neg h).trans (F.2 y)⟩
/-- a turn's end -/
def TurnEnd (h₀ : Heap) (L : Addr) (m : Str → Option Value) (names : List Str) (led : List (Addr × Obj)) (s : Shared) (Q : Flow → Shared → Prop) (f : Flow) (s₃ : Shared) : Prop :=
  match f with
  | .next => ∃ h'' tk'' m'', s₃ = { s with heap := h'', toks := tk'' } ∧ Fr h₀ L h'' m'' ∧ (∀ y, y ∉ names → m'' y = m y) ∧ News h₀ L h'' led
  | .ret v => Q (.ret v) s₃
  | _ => False
/-- a loop over a list of the ledger, in the logic of free contexts -/
theorem N_loop {l : Addr} {items : Array Value} {n : Nat} {target : Expr} {body : List Stmt} {names : List Str} {Q : Flow → Shared → Prop} (hh : A.handled = none)
    (F : Fr h₀ L s.heap m) (N : News h₀ L s.heap news) (hl : (l, listOf items n) ∈ news)
    (turn : ∀ (i : Nat) (v : Value) (I : Addr) (oI : Obj) (h' : Heap) (tk' : Nat) (m' : Str → Option Value), items[i]? = some v → Fr h₀ L h' m' → (∀ y, y ∉ names → m' y = m y) → News h₀ L h' ((I, oI) :: news) → (∀ p ∈ news, p.1 < I) →
      wpAny (model prog w) A (assign target env v) (fun _ s₂ => wpN (model prog w) A (execs body env) (TurnEnd h₀ L m names ((I, oI) :: news) s Q) (fun _ _ => False) s₂) (fun _ _ => False) { s with heap := h', toks := tk' })
    (fin : ∀ h' tk' m', Fr h₀ L h' m' → (∀ y, y ∉ names → m' y = m y) → News h₀ L h' news → Q .next { s with heap := h', toks := tk' })
    (ht : ∀ I v, letOwnedTupleGo target (.ref I) v = pure () := by intro _ _; rfl) :
    wpAny (model prog w) A (pyIter (.ref l)) (fun it s₂ => codeN (model prog w) A (.forLoop target it body [] env) (fun r s' => match r with | .ok f => Q f s' | .error _ => False) s₂) E s := by
  have hL := (N _ hl).1
  have hll : s.heap.IsList l items := ⟨_, hL, rfl, _, rfl⟩
  refine wpAny_pyIter_list hll ?_
  have hlt : ∀ p ∈ news, p.1 < s.heap.objs.size := fun p hp => Heap.lt_size (N p hp).1
  have hLI : s.heap.objs.size ≠ L := fun e => absurd F.ns.lt (e ▸ Nat.lt_irrefl _)
  have hfresh : h₀.get? s.heap.objs.size = none := by
    cases hq : h₀.get? s.heap.objs.size with
    | none => rfl
    | some x => exact absurd (Heap.lt_size (F.keep _ _ hq)) (Nat.lt_irrefl _)
  refine codeN_forL (I := s.heap.objs.size) (l := l) (items := items) hh
    (fun i s₁ => ∃ h' tk' m', s₁ = { s with heap := h', toks := tk' } ∧ Fr h₀ L h' m' ∧ (∀ y, y ∉ names → m' y = m y) ∧ News h₀ L h' news ∧ h'.IsListIter s.heap.objs.size l i) ?_ ?_ (ht _) (items.size - 0) 0 _ rfl (Nat.zero_le _) ?_
  · rintro i s₁ v ⟨h', tk', m', rfl, F', hm', N', hI⟩ hv
    refine ⟨hI, ⟨_, (N' _ hl).1, rfl, _, rfl⟩, fun h'' hI2 hs => ?_⟩
    obtain ⟨oI, hoI, hc, hd⟩ := id hI2
    have F2 : Fr h₀ L h'' m' := F'.change hs hLI hfresh
    have N2 : News h₀ L h'' ((s.heap.objs.size, oI) :: news) := by
      intro p hp
      rcases List.mem_cons.mp hp with rfl | hp
      · exact ⟨hoI, hLI, hfresh⟩
      · exact ⟨(hs.2 p.1 (Nat.ne_of_lt (hlt p hp))).trans (N' p hp).1, (N' p hp).2⟩
    refine wpAny_mono (turn i v _ oI h'' tk' m' hv F2 hm' N2 hlt) (fun _ s₂ h₂ => wpN_mono h₂ (fun f s₃ h₃ => ?_) fun _ _ x => x) fun _ _ x => x
    have fin' : TurnEnd h₀ L m names ((s.heap.objs.size, oI) :: news) s Q .next s₃ → ∃ h' tk' m', s₃ = { s with heap := h', toks := tk' } ∧ Fr h₀ L h' m' ∧ (∀ y, y ∉ names → m' y = m y) ∧ News h₀ L h' news ∧ h'.IsListIter s.heap.objs.size l (i + 1) := by
      rintro ⟨h3, tk3, m3, rfl, F3, hm3, N3⟩
      exact ⟨h3, tk3, m3, rfl, F3, hm3, fun p hp => N3 p (.tail _ hp), ⟨oI, (N3 _ (.head _)).1, hc, hd⟩⟩
    cases f with
    | next => exact fin' h₃
    | cont => exact h₃.elim
    | brk => exact h₃.elim
    | ret v => exact h₃
  · rintro s₁ ⟨h', tk', m', rfl, F', hm', N', hI⟩
    refine ⟨hI, ⟨_, (N' _ hl).1, rfl, _, rfl⟩, fun h'' hs => ?_⟩
    refine fin h'' tk' m' ?_ hm' ?_
    · exact ⟨F'.ns.extBut hs hLI.symm, fun b o e => hs _ _ (fun q => by rw [q, hfresh] at e; cases e) (F'.keep b o e), F'.above⟩
    · intro p hp
      exact ⟨hs _ _ (Nat.ne_of_lt (hlt p hp)) (N' p hp).1, (N' p hp).2⟩
  · exact ⟨_, s.toks, m, rfl, F.push _, fun _ _ => rfl, fun p hp => ⟨Heap.get?_push_of_some _ (N p hp).1, (N p hp).2⟩, ⟨_, Heap.get?_push_size _ rfl, rfl, rfl⟩⟩
end
end
section
open PySem.SeqAt in
theorem eqAt_bytes {A : Around} {s : Shared} (b c : Array UInt8) (t u : Tok) : EqAt A s (.bytes b t) (.bytes c u) (decide (b.toList = c.toList)) := fun _ _ _ _ h => eqBool_bytes h
section
variable {prog : Program} {w : World} {A : Around} {E : Value → Shared → Prop} {s : Shared} {h₀ : Heap} {L : Addr} {news : List (Addr × Obj)}
/-- a pair of octets and a bool -/
abbrev tupO (k : Array UInt8) (c : Bool) (t : Tok) (n : Nat) : Obj := { cls := .type "tuple", data := .seq #[.bytes k t, .bool c] n }
theorem tup_items {k k2 : Array UInt8} {c c2 : Bool} {t t2 : Tok} : ∀ j (h1 : j < #[Value.bytes k t, .bool c].size) (h2 : j < #[Value.bytes k2 t2, .bool c2].size),
    PySem.SeqAt.EqAt A s #[Value.bytes k t, .bool c][j] #[Value.bytes k2 t2, .bool c2][j] (if j = 0 then decide (k.toList = k2.toList) else c == c2)
  | 0, _, _ => eqAt_bytes k k2 t t2
  | 1, _, _ => PySem.SeqAt.EqAt.bool_bool c c2
theorem tup_fold {k k2 : Array UInt8} {c c2 : Bool} : ((List.range (min 2 2)).all (fun j => if j = 0 then decide (k.toList = k2.toList) else c == c2) && (2 == 2)) = (decide (k.toList = k2.toList) && (c == c2)) := by
  simp [List.range_succ]
theorem ne_tup {l b : Addr} {k k2 : Array UInt8} {c c2 : Bool} {t t2 n n2 : Nat} {Q : Value → Shared → Prop} (N : News h₀ L s.heap news) (hl : (l, tupO k c t n) ∈ news) (hb : (b, tupO k2 c2 t2 n2) ∈ news) (hu : A.units < cLine)
    (h : Q (.bool (!(decide (k.toList = k2.toList) && (c == c2)))) s) : wpAny (model prog w) A (compareOp .NotEq (.ref l) (.ref b)) Q E s := by
  have := PySem.SeqAt.RcNeAt.tuples (A := A) (s := s) ⟨_, News.get N hl, rfl, _, rfl⟩ ⟨_, News.get N hb, rfl, _, rfl⟩ hu tup_items prog w E Q
  refine this ?_
  show Q (.bool (!((List.range (min 2 2)).all (fun j => if j = 0 then decide (k.toList = k2.toList) else c == c2) && (2 == 2)))) s
  rw [tup_fold]
  exact h
theorem ne_tup_same {l b : Addr} {k : Array UInt8} {c : Bool} {t t2 n n2 : Nat} {Q : Value → Shared → Prop} (N : News h₀ L s.heap news) (hl : (l, tupO k c t n) ∈ news) (hb : (b, tupO k c t2 n2) ∈ news) (hu : A.units < cLine)
    (h : Q (.bool false) s) : wpAny (model prog w) A (compareOp .NotEq (.ref l) (.ref b)) Q E s :=
  ne_tup N hl hb hu (by
    have e : (!(decide (k.toList = k.toList) && (c == c))) = false := by simp
    rw [e]
    exact h)
theorem ne_none {Q : Value → Shared → Prop} (h : Q (.bool false) s) : wpAny (model prog w) A (compareOp .NotEq .none .none) Q E s :=
  PySem.SeqAt.RcNeAt.none_none prog w E Q h
end
section
variable {prog : Program} {w : World} {A : Around} {E : Value → Shared → Prop} {s : Shared}
theorem ne_bb {b : Bool} {Q : Value → Shared → Prop} (h : Q (.bool false) s) : wpAny (model prog w) A (compareOp .NotEq (.bool b) (.bool b)) Q E s :=
  PySem.SeqAt.RcNeAt.bool_bool b b prog w E Q (by
    have e : (!(b == b)) = false := by cases b <;> rfl
    rw [e]
    exact h)
theorem eq_nb {b : Bool} {Q : Value → Shared → Prop} (h : Q (.bool false) s) : wpAny (model prog w) A (compareOp .Eq (.bool (!b)) (.bool b)) Q E s :=
  PySem.SeqAt.RcAt.bool_bool (!b) b prog w E Q (by
    have e : ((!b) == b) = false := by cases b <;> rfl
    rw [e]
    exact h)
theorem eq_bb {b c : Bool} {Q : Value → Shared → Prop} (h : Q (.bool (b == c)) s) : wpAny (model prog w) A (compareOp .Eq (.bool b) (.bool c)) Q E s :=
  PySem.SeqAt.RcAt.bool_bool b c prog w E Q h
end
section
variable {prog : Program} {w : World} {A : Around} {E : Value → Shared → Prop} {s : Shared} {h₀ : Heap} {L : Addr} {news : List (Addr × Obj)}
/-- an item of a list of the ledger -/
theorem led_item {value slice : PySem.Expr} {l : Addr} {items : Array Value} {n : Nat} {k : Nat} {u : Tok} {v : Value} {Q : Value → Shared → Prop} (N : News h₀ L s.heap news) (hl : (l, listOf items n) ∈ news) (hx : items[k]? = some v) (hk : k < 1000) (h : Q v s)
    (hs : subscripted slice false (.ref l) (.int (k : Int) u) = operate [.ref l, .int (k : Int) u] (getItem (.ref l) (.int (k : Int) u)) := by with_unfolding_all rfl) :
    wpAny (model prog w) A (subscriptTail value slice (.ref l) (.int (k : Int) u)) Q E s := by
  have hL : s.heap.IsList l items := ⟨_, News.get N hl, rfl, _, rfl⟩
  exact tail_any hL.typeIs slot_list_getitem.lookup (wpAny_getItem_list hL (Int.natCast_nonneg k) (by omega) (by simpa using hx) h) hs
end
end
section
section
open PySem.StrLaws PySem.Builtin.Str PySem.Builtin
theorem sliceIdx_hi_none (l : Option Int) (len : Nat) : strSliceIndices l none 1 len = strSliceIndices l (some (len : Int)) 1 len := by
  unfold strSliceIndices
  have e1 : ¬ ((len : Int) < 0) := by omega
  have e2 : max (0 : Int) (min (len : Int) (len : Int)) = len := by omega
  simp [e1]
theorem slice_take (x : PySem.Str) {n : Nat} (h : n ≤ x.length) : PySem.Txt.slice x none (some (n : Int)) = ⟨(x.cps.toList.take n).toArray⟩ := by
  have e : sliceText x none (some (n : Int)) = sliceText x (some ((0 : Nat) : Int)) (some (n : Int)) := by
    unfold sliceText
    rw [sliceIdx_none_lo]
    rfl
  show sliceText x none (some (n : Int)) = _
  rw [e, sliceText_nat x (Nat.zero_le _) h, List.drop_zero, Nat.sub_zero]
theorem slice_drop (x : PySem.Str) {n : Nat} (h : n ≤ x.length) : PySem.Txt.slice x (some (n : Int)) none = ⟨(x.cps.toList.drop n).toArray⟩ := by
  have e : sliceText x (some (n : Int)) none = sliceText x (some (n : Int)) (some ((x.length : Nat) : Int)) := by
    unfold sliceText
    rw [sliceIdx_hi_none]
  show sliceText x (some (n : Int)) none = _
  rw [e, sliceText_nat x h (Nat.le_refl _)]
  congr 2
  rw [List.take_of_length_le]
  simp [PySem.Str.length]
end
/-- a text of small signs, at most n long -/
def Small (n : Nat) (x : PySem.Str) : Prop := x.length ≤ n ∧ ∀ c ∈ x.cps.toList, c < 128
theorem Small.app {n k : Nat} {x y : PySem.Str} (h : Small n x) (h' : Small k y) : Small (n + k) (x ++ y) := by
  refine ⟨by rw [PySem.Str.length_append]; exact Nat.add_le_add h.1 h'.1, fun c hc => ?_⟩
  rw [PySem.Str.cps_append, Array.toList_append] at hc
  rcases List.mem_append.mp hc with hc | hc
  · exact h.2 c hc
  · exact h'.2 c hc
theorem Small.mono {n k : Nat} {x : PySem.Str} (h : Small n x) (hk : n ≤ k) : Small k x := ⟨Nat.le_trans h.1 hk, h.2⟩
theorem small_take {x : PySem.Str} (hx : ∀ c ∈ x.cps.toList, c < 128) {n : Nat} (h : n ≤ x.length) : Small n (PySem.Txt.slice x none (some (n : Int))) := by
  rw [slice_take x h]
  exact ⟨by simp only [PySem.Str.length, List.size_toArray, List.length_take]; omega, fun c hc => hx c (List.mem_of_mem_take hc)⟩
theorem small_drop {x : PySem.Str} (hx : ∀ c ∈ x.cps.toList, c < 128) {n : Nat} (h : n ≤ x.length) : Small (x.length - n) (PySem.Txt.slice x (some (n : Int)) none) := by
  rw [slice_drop x h]
  exact ⟨by simp [PySem.Str.length], fun c hc => hx c (List.mem_of_mem_drop hc)⟩
theorem small_rev {x : PySem.Str} (hx : ∀ c ∈ x.cps.toList, c < 128) (u : Tok) : Small x.length (PySem.Txt.sliceBy x none none (-1, u)) := by
  refine ⟨Nat.le_of_eq (step_rev_len x u), fun c hc => ?_⟩
  rw [step_rev_list] at hc
  obtain ⟨k, hk, rfl⟩ := List.mem_map.mp hc
  have hk' := List.mem_range.mp hk
  have hlt : x.length - 1 - k < x.cps.size := by
    show x.cps.size - 1 - k < x.cps.size
    have : 0 < x.cps.size := Nat.lt_of_le_of_lt (Nat.zero_le _) hk'
    omega
  apply hx
  rw [Array.getD_eq_getD_getElem?, Array.getElem?_eq_getElem hlt]
  exact Array.getElem_mem_toList ..
end
section
local macro_rules | `(tactic| walk_at "no such key") => `(tactic| skip)
local macro_rules | `(tactic| walk_at "no such key") => `(tactic| skip)
local macro_rules | `(tactic| walk_at "no such key") => `(tactic| skip)
local macro_rules | `(tactic| walk_at "no such key") => `(tactic| skip)
local macro_rules | `(tactic| walk_at "no such key") => `(tactic| skip)
local macro_rules | `(tactic| walk_at "no such key") => `(tactic| skip)
local macro_rules | `(tactic| walk_at "no such key") => `(tactic| skip)
local macro_rules | `(tactic| walk_at "no such key") => `(tactic| skip)
local macro_rules | `(tactic| walk_at "no such key") => `(tactic| skip)
local macro_rules | `(tactic| walk_at "no such key") => `(tactic| skip)
local macro_rules | `(tactic| walk_at "no such key") => `(tactic| skip)
local macro_rules | `(tactic| walk_at "no such key") => `(tactic| skip)
/-- the law's body and scope, read out of the row -/
def lawDef : List Stmt × Scope := match PySem.Challenge.pw_fc0054_01.main.body.getLast? with
  | some (.FunctionDef _ _ b _ _ _ sc _ _ _) => (b, sc)
  | _ => ([], ⟨.function, [], false, false, []⟩)
/-- the body of a loop ahead -/
def forBody : List Stmt → List Stmt
  | .For _ _ b _ _ :: _ => b
  | _ => []
/-- one int stored: the ways meet -/
theorem cutInt {M : Model} {A : Around} {st : Sem Flow} {E : Value → Shared → Prop} {Q : Flow → Shared → Prop} {s : Shared} {h₀ h : Heap} {L : Addr} {m : Str → Option Value} {news : List (Addr × Obj)} (x : Str) (_F : Fr h₀ L h m) (_N : News h₀ L h news)
    (cont : ∀ (i : Int) (t : Tok) (h' : Heap) (tk' : Nat), Fr h₀ L h' (fun y => if y = x then some (.int i t) else m y) → News h₀ L h' news → Q .next { s with heap := h', toks := tk' })
    (main : ∀ Q' : Flow → Shared → Prop, (∀ (i : Int) (t : Tok) (h' : Heap) (tk' : Nat), Fr h₀ L h' (fun y => if y = x then some (.int i t) else m y) → News h₀ L h' news → Q' .next { s with heap := h', toks := tk' }) → wpAny M A st Q' E s) :
    wpAny M A st Q E s := main Q cont
theorem seg0 {w p loose mean mg mb} :
  ∀ (dp un : Nat) (gd : Option (List Code)) (cn : Str) (a : Addr) (ccd : Value) (A₀ : Around) (h₀ : Heap) (L : Addr) (s : Shared) (Q : Flow → Shared → Prop) (sl : Addr) (vs : List Value) (ns : List Int),
    Below A₀ h₀ [] h₀ → h₀.IsList sl vs.toArray → IntsAre vs ns → ns.length ≤ 63 → Fr h₀ L s.heap (fun y => List.lookup y [(PySem.Str.ofString "script", Value.ref sl)]) → (Hx.hd.heap_1 w.params).In h₀ → News h₀ L s.heap [] → Top p loose mean mg mb h₀ → dp + 200 < recursionLimit → un + 8 * 200 < cLine →
    (∀ (i1 i2 i3 i4 : Int) (t1 t2 t3 t4 : Tok) (h' : Heap) (tk' : Nat) (m : Str → Option Value), Fr h₀ L h' m → m (PySem.Str.ofString "head") = some (.int i1 t1) → m (PySem.Str.ofString "mark") = some (.int i2 t2) → m (PySem.Str.ofString "size") = some (.int i3 t3) → m (PySem.Str.ofString "more") = some (.int i4 t4) → News h₀ L h' [] →
      wpN (model PySem.Challenge.rw_fc0054_01.row.prog w) (ktrTop dp un gd cn lawDef.2 L a ccd [] []) (execs (lawDef.1.drop 4) (envOf cn lawDef.2 L a ccd)) Q (fun _ _ => False) { s with heap := h', toks := tk' }) →
      wpN (model PySem.Challenge.rw_fc0054_01.row.prog w) (ktrTop dp un gd cn lawDef.2 L a ccd [] []) (execs (lawDef.1.drop 0) (envOf cn lawDef.2 L a ccd)) Q (fun _ _ => False) s := by
  intro dp un gd cn a ccd A₀ h₀ L s Q sl vs ns B hl hi hn F X N T hd hu cont
  revert X; k_fill; intro X
  k_dflt (show wpN _ (ktrTop _ _ _ _ ⟨_, _, _, _, _⟩ _ _ _ _ _) (execs (_ :: _) (envOf _ ⟨_, _, _, _, _⟩ _ _ _)) _ _ _)
  refine N_execs_consA (cutInt (PySem.Str.ofString "head") F N ?_ fun Q' hQ' => ?_)
  rotate_left
  · k_steps
    all_goals (rename Fr _ _ _ _ => F'; rename News _ _ _ _ => N'; exact hQ' _ _ _ _ F' N')
  clear F N
  intro i1 t1 h1 k1 F N
  dsimp only
  refine N_execs_consA (cutInt (PySem.Str.ofString "mark") F N ?_ fun Q' hQ' => ?_)
  rotate_left
  · k_steps
    all_goals (rename Fr _ _ _ _ => F'; rename News _ _ _ _ => N'; exact hQ' _ _ _ _ F' N')
  clear F N
  intro i2 t2 h2 k2 F N
  dsimp only
  refine N_execs_consA (cutInt (PySem.Str.ofString "size") F N ?_ fun Q' hQ' => ?_)
  rotate_left
  · k_steps
    all_goals (rename Fr _ _ _ _ => F'; rename News _ _ _ _ => N'; exact hQ' _ _ _ _ F' N')
  clear F N
  intro i3 t3 h3 k3 F N
  dsimp only
  refine N_execs_consA (cutInt (PySem.Str.ofString "more") F N ?_ fun Q' hQ' => ?_)
  rotate_left
  · k_steps
    all_goals (rename Fr _ _ _ _ => F'; rename News _ _ _ _ => N'; exact hQ' _ _ _ _ F' N')
  clear F N
  intro i4 t4 h4 k4 F N
  dsimp only
  exact cont i1 i2 i3 i4 t1 t2 t3 t4 _ _ _ F rfl rfl rfl rfl N
end
section
theorem fmod_lt (i : Int) : (i.fmod 256).toNat < 256 := by
  have h1 := Int.fmod_nonneg_of_pos i (show (0 : Int) < 256 by decide)
  have h2 := Int.fmod_lt_of_pos i (show (0 : Int) < 256 by decide)
  omega
theorem seg1 {w p loose mean mg mb} :
  ∀ (dp un : Nat) (gd : Option (List Code)) (cn : Str) (a : Addr) (ccd : Value) (A₀ : Around) (h₀ : Heap) (L : Addr) (s : Shared) (Q : Flow → Shared → Prop) (i1 i2 i3 i4 : Int) (t1 t2 t3 t4 : Tok) (m : Str → Option Value),
    Below A₀ h₀ [] h₀ → Fr h₀ L s.heap m → m (PySem.Str.ofString "head") = some (.int i1 t1) → m (PySem.Str.ofString "mark") = some (.int i2 t2) → m (PySem.Str.ofString "size") = some (.int i3 t3) → m (PySem.Str.ofString "more") = some (.int i4 t4) → (Hx.hd.heap_1 w.params).In h₀ → News h₀ L s.heap [] → Top p loose mean mg mb h₀ → dp + 200 < recursionLimit → un + 8 * 200 < cLine →
    (∀ (n1 n2 : Nat) (fr : Array UInt8) (t5 t6 t7 : Tok) (h' : Heap) (tk' : Nat) (m : Str → Option Value), n1 < 256 → n2 < 256 → (fr = #[128] ∨ fr = #[239]) → Fr h₀ L h' m → m (PySem.Str.ofString "mark") = some (.int i2 t2) → m (PySem.Str.ofString "size") = some (.int i3 t3) → m (PySem.Str.ofString "more") = some (.int i4 t4) →
      m (PySem.Str.ofString "one") = some (.bytes (sha #[n1.toUInt8, 5]) t5) → m (PySem.Str.ofString "other") = some (.bytes (sha #[n2.toUInt8, 6]) t6) → m (PySem.Str.ofString "front") = some (.bytes fr t7) → News h₀ L h' [] →
      wpN (model PySem.Challenge.rw_fc0054_01.row.prog w) (ktrTop dp un gd cn lawDef.2 L a ccd [] []) (execs (lawDef.1.drop 6) (envOf cn lawDef.2 L a ccd)) Q (fun _ _ => False) { s with heap := h', toks := tk' }) →
      wpN (model PySem.Challenge.rw_fc0054_01.row.prog w) (ktrTop dp un gd cn lawDef.2 L a ccd [] []) (execs (lawDef.1.drop 4) (envOf cn lawDef.2 L a ccd)) Q (fun _ _ => False) s := by
  intro dp un gd cn a ccd A₀ h₀ L s Q i1 i2 i3 i4 t1 t2 t3 t4 m B F e1 e2 e3 e4 X N T hd hu cont
  replace F := ((((FrA.start F).name e1).name e2).name e3).name e4 |>.1
  revert X; k_fill; intro X
  k_dflt (show wpN _ (ktrTop _ _ _ _ ⟨_, _, _, _, _⟩ _ _ _ _ _) (execs (_ :: _) (envOf _ ⟨_, _, _, _, _⟩ _ _ _)) _ _ _)
  refine N_execs_consA ?_
  k_steps
  rename Fr _ _ _ _ => F5
  rename News _ _ _ _ => N5
  have N6 := news_drop (a := []) N5 (fun _ h => nomatch h)
  clear N5
  refine N_execs_consA ?_
  k_steps
  all_goals
    rename Fr _ _ _ _ => F7
    rename News _ _ _ _ => N7
    first
      | exact cont (i1.fmod 256).toNat ((i1.fdiv 256).fmod 256).toNat #[128] _ _ _ _ _ _ (fmod_lt _) (fmod_lt _) (.inl rfl) F7 rfl rfl rfl rfl rfl rfl (news_drop N7 (fun _ h => nomatch h))
      | exact cont (i1.fmod 256).toNat ((i1.fdiv 256).fmod 256).toNat #[239] _ _ _ _ _ _ (fmod_lt _) (fmod_lt _) (.inr rfl) F7 rfl rfl rfl rfl rfl rfl (news_drop N7 (fun _ h => nomatch h))
end
section
local macro_rules | `(tactic| walk_at "no such key") => `(tactic| skip)
local macro_rules | `(tactic| walk_at "no such key") => `(tactic| skip)
local macro_rules | `(tactic| walk_at "no such key") => `(tactic| skip)
local macro_rules | `(tactic| walk_at "no such key") => `(tactic| skip)
local macro_rules | `(tactic| walk_at "no such key") => `(tactic| skip)
local macro_rules | `(tactic| walk_at "no such key") => `(tactic| skip)
local macro_rules | `(tactic| walk_at "no such key") => `(tactic| skip)
local macro_rules | `(tactic| walk_at "no such key") => `(tactic| skip)
local macro_rules | `(tactic| walk_at "no such key") => `(tactic| skip)
local macro_rules | `(tactic| walk_at "no such key") => `(tactic| skip)
local macro_rules | `(tactic| walk_at "no such key") => `(tactic| skip)
local macro_rules | `(tactic| walk_at "no such key") => `(tactic| skip)
section
variable {kk dp un : Nat} {w : World} {p : Program} {loose : List Str} {mean : ExcName → Option Value} {mg mb : Str → Option Value} {f : Addr} {vs : List Value} {R : Option (Array UInt8 × Bool)} {gd : Option (List Code)} {cn : Str} {cs : Scope} {a : Addr} {ccd : Value} {A₀ : Around} {h₀ : Heap} {L : Addr} {m : Str → Option Value} {news : List (Addr × Obj)} {s : Shared} {Q E : Value → Shared → Prop}
theorem use0T (B : Below A₀ h₀ [] h₀) (F : Fr h₀ L s.heap m) (X : (Hx.hd.heap_1 w.params).In h₀) (N : News h₀ L s.heap news) (T : Top p loose mean mg mb h₀) (hk : cs.kind = .function) (C : Call0T kk w p loose mean mg mb f vs R) (hd : dp + kk < recursionLimit) (hu : un + 8 * kk < cLine)
    (none : R = none → ∀ (h' : Heap) (tk' : Nat), Fr h₀ L h' m → News h₀ L h' news → Q .none { s with heap := h', toks := tk' })
    (some : ∀ (k : Array UInt8) (c : Bool) (D : Addr) (t : Tok) (h' : Heap) (tk' : Nat), R = some (k, c) → Fr h₀ L h' m → News h₀ L h' ((D, { cls := .type "tuple", data := .seq #[.bytes k t, .bool c] 0 }) :: news) → (∀ p ∈ news, p.1 < D) → Q (.ref D) { s with heap := h', toks := tk' }) :
    wpAny (model PySem.Challenge.rw_fc0054_01.row.prog w) (ktrTop dp un gd cn cs L a ccd [] []) (call (.ref f) vs) Q E s := C _ _ _ _ _ _ _ _ _ _ _ _ _ _ _ B F X N T hk hd hu none some
theorem use0 {R : Value → Prop} (B : Below A₀ h₀ [] h₀) (F : Fr h₀ L s.heap m) (X : (Hx.hd.heap_1 w.params).In h₀) (N : News h₀ L s.heap news) (T : Top p loose mean mg mb h₀) (hk : cs.kind = .function) (C : Call0 kk w p loose mean mg mb f vs R) (hd : dp + kk < recursionLimit) (hu : un + 8 * kk < cLine)
    (ret : ∀ (v : Value) (h' : Heap) (tk' : Nat), R v → Fr h₀ L h' m → News h₀ L h' news → Q v { s with heap := h', toks := tk' }) :
    wpAny (model PySem.Challenge.rw_fc0054_01.row.prog w) (ktrTop dp un gd cn cs L a ccd [] []) (call (.ref f) vs) Q E s := C _ _ _ _ _ _ _ _ _ _ _ _ _ _ _ B F X N T hk hd hu ret
end
local macro_rules | `(tactic| walk_at "call ref") => `(tactic| (k_here; k_dflt (show wpAny _ _ (call (Value.ref 132) [Value.bytes _ _]) _ _ _); k_dflt (refine' useP ?k1 ?k2 ?k3 ?k4 ?k5 ?k6 (encode_check_ok _ _ ?kz) ?k7 ?k8 ?_; (case k1 => k_asm); (case k2 => k_asm); (case k3 => k_asm); (case k4 => k_asm); (case k5 => k_asm); (case k6 => first | exact rfl | assumption); (case k7 => ktr_room); (case k8 => ktr_units); (case kz => first | omega | (simp; done) | (simp; omega))); (intro v9 h9 tk9 e9 F9 N9; obtain ⟨t9, e9⟩ := e9; subst e9); (try k_sweep); (try dsimp only); (try k_fold)))
local macro_rules | `(tactic| walk_at "call ref") => `(tactic| (k_here; k_dflt (show wpAny _ _ (call (Value.ref 1293) [Value.str _ _]) _ _ _); refine stopHere ?_))
local macro_rules | `(tactic| walk_at "call ref") => `(tactic| (k_here; k_dflt (show wpAny _ _ (call (Value.ref 1279) [Value.bytes _ _]) _ _ _); refine stopHere ?_))
/-- one turn of the first loop -/
theorem turn2 {w p loose mean mg mb} :
  ∀ (dp un : Nat) (gd : Option (List Code)) (cn : Str) (a : Addr) (ccd : Value) (A₀ : Around) (h₀ : Heap) (L : Addr) (s : Shared) (Q : Flow → Shared → Prop) (b : Array UInt8) (t : Tok) (m : Str → Option Value) (news : List (Addr × Obj)) (rest : List Stmt),
    (hz : b.size ≤ 96) → toldOf (encCheck b) = keyOf b → (∀ c ∈ (encCheck b).cps.toList, c < 128) → (∀ d, dec (encCheck b) = some d → d.size ≤ 104) →
    Below A₀ h₀ [] h₀ → Fr h₀ L s.heap m → m (PySem.Str.ofString "octets") = some (.bytes b t) → (Hx.hd.heap_1 w.params).In h₀ → News h₀ L s.heap news → Top p loose mean mg mb h₀ → dp + 200 < recursionLimit → un + 8 * 200 < cLine →
    (∀ (h' : Heap) (tk' : Nat), Fr h₀ L h' m → News h₀ L h' news → Q .next { s with heap := h', toks := tk' }) →
      wpAny (model PySem.Challenge.rw_fc0054_01.row.prog w) (ktrTop dp un gd cn lawDef.2 L a ccd [] []) (execs (forBody (lawDef.1.drop 6)) (envOf cn lawDef.2 L a ccd)) Q (fun _ _ => False) s := by
  intro dp un gd cn a ccd A₀ h₀ L s Q b t m news rest hz hP hc hzz B F e1 X N T hd hu cont
  have hlen : (encCheck b).length ≤ 300 := by
    unfold encCheck
    have := enc_len (b ++ first4 (dsha b))
    simp only [Array.size_append, first4_size, dsha_size] at this
    omega
  replace F := (FrA.start F).name e1 |>.1
  revert X; k_fill; intro X
  k_dflt (show wpAny _ (ktrTop _ _ _ _ ⟨_, _, _, _, _⟩ _ _ _ _ _) (execs (_ :: _) (envOf _ ⟨_, _, _, _, _⟩ _ _ _)) _ _ _)
  k_steps
  unfold Stop
  rename Fr _ _ _ _ => F1
  rename News _ _ _ _ => N1
  refine use0T (by k_asm) F1 (by k_asm) N1 (by k_asm) rfl (law_told_ok _ _ hlen hc hzz) (by omega) (by omega) ?_ ?_
  · intro hR h' tk' F' N'
    clear F1 N1
    k_steps
    unfold Stop
    rename Fr _ _ _ _ => F2
    rename News _ _ _ _ => N2
    refine useT (by k_asm) F2 (by k_asm) N2 (by k_asm) rfl (law_key_ok b _ (by omega)) (by omega) (by omega) ?_ ?_
    · intro hR2 h' tk' F' N'
      clear F2 N2
      refine ne_none ?_
      k_steps
      rename Fr _ _ _ _ => F2
      rename News _ _ _ _ => N2
      exact cont _ _ (Fr.eqv F2 (fun y => by by_cases h : y = PySem.Str.ofString "octets" <;> simp [h, e1])) N2
    · intro k c D t' h' tk' hR2
      rw [← hP, hR] at hR2
      cases hR2
  · intro k c D t' h' tk' hR F' N' l'
    clear F1 N1
    k_steps
    unfold Stop
    rename Fr _ _ _ _ => F2
    rename News _ _ _ _ => N2
    refine useT (by k_asm) F2 (by k_asm) N2 (by k_asm) rfl (law_key_ok b _ (by omega)) (by omega) (by omega) ?_ ?_
    · intro hR2
      rw [← hP, hR] at hR2
      cases hR2
    · intro k2 c2 D2 t2 h2 tk2 hR2 F3 N3 l3
      have hkc : k = k2 ∧ c = c2 := by
        rw [← hP, hR] at hR2
        injection hR2 with h
        injection h with h1 h2
        exact ⟨h1, h2⟩
      obtain ⟨rfl, rfl⟩ := hkc
      clear F2 N2
      refine ne_tup_same N3 (.tail _ (.head _)) (.head _) (show un < cLine by omega) ?_
      k_steps
      rename Fr _ _ _ _ => F2
      rename News _ _ _ _ => N2
      exact cont _ _ (Fr.eqv F2 (fun y => by by_cases h : y = PySem.Str.ofString "octets" <;> simp [h, e1])) (news_drop N2 fun q hq => .tail _ (.tail _ hq))
end
section
/-- octets whose first one is not nought -/
def Fore (b : Array UInt8) : Prop := ∃ c r, b.toList = c :: r ∧ c ≠ 0
/-- what the plain laws say of a text encoded with its check -/
def ToldOk : Prop := ∀ b : Array UInt8, b.size ≤ 96 → Fore b → toldOf (encCheck b) = keyOf b ∧ (∀ c ∈ (encCheck b).cps.toList, c < 128) ∧ ∀ d, dec (encCheck b) = some d → d.size ≤ 104
theorem fore_app {fr : Array UInt8} (hf : fr = #[128] ∨ fr = #[239]) (x : Array UInt8) : Fore (fr ++ x) := by
  rcases hf with rfl | rfl
  · exact ⟨128, x.toList, by simp, by decide⟩
  · exact ⟨239, x.toList, by simp, by decide⟩
theorem picked_le (b : Array UInt8) (n : Int) (h0 : 0 ≤ n) (h1 : n ≤ 80) : (KBy.picked b none (some n)).size ≤ 80 := by
  rw [KBc.picked_eq]
  simp only [List.size_toArray, List.length_take, Option.elim]
  unfold clipAt
  omega
local macro_rules | `(tactic| walk_at "binaryOp Add bytes bytes") => `(tactic| (k_here; (with_reducible show wpAny _ _ (binaryOp Operator.Add (Value.bytes _ _) (Value.bytes (KBy.picked _ none _) _)) _ _ _); refine stopHere ?_))
local macro_rules | `(tactic| walk_at "pyIter ref") => `(tactic| (k_here; refine stopHere ?_))
theorem seg2 {w p loose mean mg mb} (P : ToldOk) :
  ∀ (dp un : Nat) (gd : Option (List Code)) (cn : Str) (a : Addr) (ccd : Value) (A₀ : Around) (h₀ : Heap) (L : Addr) (s : Shared) (Q : Flow → Shared → Prop) (i2 i3 : Int) (t2 t3 t5 t7 : Tok) (one fr : Array UInt8) (m : Str → Option Value),
    Below A₀ h₀ [] h₀ → Fr h₀ L s.heap m → m (PySem.Str.ofString "mark") = some (.int i2 t2) → m (PySem.Str.ofString "size") = some (.int i3 t3) → m (PySem.Str.ofString "one") = some (.bytes one t5) → one.size = 32 → m (PySem.Str.ofString "front") = some (.bytes fr t7) → (fr = #[128] ∨ fr = #[239]) →
    (Hx.hd.heap_1 w.params).In h₀ → News h₀ L s.heap [] → Top p loose mean mg mb h₀ → dp + 200 < recursionLimit → un + 8 * 200 < cLine →
    (∀ (h' : Heap) (tk' : Nat) (m' : Str → Option Value), Fr h₀ L h' m' → (∀ y, y ∉ [PySem.Str.ofString "octets"] → m' y = m y) → News h₀ L h' [] →
      wpN (model PySem.Challenge.rw_fc0054_01.row.prog w) (ktrTop dp un gd cn lawDef.2 L a ccd [] []) (execs (lawDef.1.drop 7) (envOf cn lawDef.2 L a ccd)) Q (fun _ _ => False) { s with heap := h', toks := tk' }) →
      wpN (model PySem.Challenge.rw_fc0054_01.row.prog w) (ktrTop dp un gd cn lawDef.2 L a ccd [] []) (execs (lawDef.1.drop 6) (envOf cn lawDef.2 L a ccd)) Q (fun _ _ => False) s := by
  intro dp un gd cn a ccd A₀ h₀ L s Q i2 i3 t2 t3 t5 t7 one fr m B F e1 e2 e3 h32 e4 hfr X N T hd hu cont
  obtain ⟨F, hA⟩ := ((((FrA.start F).name e1).name e2).name e3).name e4
  have hfs : fr.size = 1 := by rcases hfr with rfl | rfl <;> rfl
  revert X; k_fill; intro X
  k_dflt (show wpN _ (ktrTop _ _ _ _ ⟨_, _, _, _, _⟩ _ _ _ _ _) (execs (_ :: _) (envOf _ ⟨_, _, _, _, _⟩ _ _ _)) _ _ _)
  refine N_execs_cons (N_For ?_)
  k_steps
  unfold Stop
  obtain ⟨ol, rfl⟩ : ∃ l : List UInt8, one = l.toArray := ⟨one.toList, Array.toArray_toList.symm⟩
  have hol : ol.length = 32 := by simpa using h32
  refine bytes_mul_K (b := ol) (n := 3) (fun h => by rw [h] at hol; cases hol) (by decide) (by decide) (by rw [hol]; decide) rfl ?_
  intro _ _
  have h3 : ((List.replicate (3 : Int).toNat ol).flatten.toArray).size ≤ 96 := by simp [hol]
  generalize (List.replicate (3 : Int).toNat ol).flatten.toArray = thr at h3 ⊢
  k_steps
  unfold Stop
  have hpk := picked_le thr (i3.fmod 81) (Int.fmod_nonneg_of_pos _ (by decide)) (by have := Int.fmod_lt_of_pos i3 (show (0 : Int) < 81 by decide); omega)
  rename KBw.bInts _ = _ => hbi
  clear hbi
  revert hpk
  generalize KBy.picked thr none (some (i3.fmod 81)) = cut
  intro hpk
  k_steps
  unfold Stop
  rename Fr _ _ _ _ => F1
  rename News _ _ _ _ => N1
  have N2 := news_drop (a := [_]) N1 (fun q hq => by rw [List.mem_singleton.mp hq]; exact .head _)
  clear N1
  refine N_loop (names := [PySem.Str.ofString "octets"]) rfl F1 N2 (.head _) ?_ ?_
  · intro i v I oI h' tk' m' hv F3 hm3 N3 l3
    have hv' : ∃ b t, v = Value.bytes b t ∧ b.size ≤ 96 ∧ Fore b := by
      have h1 := Array.mem_of_getElem? hv
      simp only [List.mem_toArray, List.mem_cons, List.not_mem_nil, or_false] at h1
      rcases h1 with rfl | rfl | rfl | rfl | rfl
      · exact ⟨_, _, rfl, by simp [hfs, hol], by rw [Array.append_assoc]; exact fore_app hfr _⟩
      · exact ⟨_, _, rfl, by simp only [Array.size_append, hfs]; omega, fore_app hfr _⟩
      · exact ⟨_, _, rfl, by simp [hfs, hol], fore_app hfr _⟩
      · exact ⟨_, _, rfl, by simp [hfs, hol], by rw [Array.append_assoc]; exact fore_app hfr _⟩
      · exact ⟨_, _, rfl, by simp [hfs, hol], by rw [Array.append_assoc]; exact fore_app hfr _⟩
    obtain ⟨b, tb, rfl, hb, hfo⟩ := hv'
    obtain ⟨q1, q2, q3⟩ := P b hb hfo
    clear hv F1 N2
    k_steps
    rename Fr _ _ _ _ => F4
    rename News _ _ _ _ => N4
    refine wpN_any (turn2 _ _ _ _ _ _ A₀ h₀ L _ _ b tb _ _ [] hb q1 q2 q3 B F4 (if_pos rfl) X N4 T hd hu ?_)
    intro h5 tk5 F5 N5
    refine ⟨h5, tk5, _, rfl, F5, fun y hy => ?_, N5⟩
    have hy' : y ≠ PySem.Str.ofString "octets" := fun e => hy (e ▸ List.mem_singleton.mpr rfl)
    rw [if_neg hy', hm3 y hy]
  · intro h' tk' m' F3 hm3 N3
    dsimp only
    exact cont h' tk' m' F3 (fun y hy => (hm3 y hy).trans (hA y)) (news_drop N3 (fun _ h => nomatch h))
end
section
local macro_rules | `(tactic| walk_at "no such key") => `(tactic| skip)
local macro_rules | `(tactic| walk_at "no such key") => `(tactic| skip)
local macro_rules | `(tactic| walk_at "no such key") => `(tactic| skip)
local macro_rules | `(tactic| walk_at "no such key") => `(tactic| skip)
local macro_rules | `(tactic| walk_at "no such key") => `(tactic| skip)
local macro_rules | `(tactic| walk_at "no such key") => `(tactic| skip)
local macro_rules | `(tactic| walk_at "no such key") => `(tactic| skip)
local macro_rules | `(tactic| walk_at "no such key") => `(tactic| skip)
local macro_rules | `(tactic| walk_at "no such key") => `(tactic| skip)
local macro_rules | `(tactic| walk_at "no such key") => `(tactic| skip)
local macro_rules | `(tactic| walk_at "no such key") => `(tactic| skip)
local macro_rules | `(tactic| walk_at "no such key") => `(tactic| skip)
theorem ne_of_out {x y : Str} (h : y ∉ [x]) : y ≠ x := fun e => h (List.mem_singleton.mpr e)
/-- what the plain laws say of the right text -/
def TextOk (one fr : Array UInt8) : Prop :=
  1 ≤ (encCheck (fr ++ one ++ #[1])).length ∧ (encCheck (fr ++ one ++ #[1])).length ≤ 80 ∧ (∀ c ∈ (encCheck (fr ++ one ++ #[1])).cps.toList, c < 128) ∧
  (∃ nv, wifOf (encCheck (fr ++ one ++ #[1])) = some (one, true, nv) ∧ ((nv = .ref 199 ∧ fr = #[128]) ∨ (nv = .ref 202 ∧ fr = #[239]))) ∧ dueOf (encCheck (fr ++ one ++ #[1])) = some (one, true)
def DecOk : Prop := ∀ x : PySem.Str, x.length ≤ 90 → (∀ b, dec x = some b → b.size ≤ 104) ∧ ∀ b, lawOct x = some b → b.size ≤ 104
local macro_rules | `(tactic| walk_at "call ref") => `(tactic| (k_here; (with_reducible show wpAny _ _ (call (Value.ref _) [Value.str _ _]) _ _ _); (with_reducible rename News _ _ _ _ => kN'); k_dflt (refine call_meth kN' (f := .ref 1171) (self := .ref 1263) (by k_mem) ?_); refine stopHere ?_))
local macro_rules | `(tactic| walk_at "call ref") => `(tactic| (k_here; k_dflt (show wpAny _ _ (call (Value.ref 132) [Value.bytes _ _]) _ _ _); k_dflt (refine' useP ?k1 ?k2 ?k3 ?k4 ?k5 ?k6 (encode_check_ok _ _ ?kz) ?k7 ?k8 ?_; (case k1 => k_asm); (case k2 => k_asm); (case k3 => k_asm); (case k4 => k_asm); (case k5 => k_asm); (case k6 => first | exact rfl | assumption); (case k7 => ktr_room); (case k8 => ktr_units); (case kz => first | omega | (simp; done) | (simp; omega))); (intro v9 h9 tk9 e9 F9 N9; obtain ⟨t9, e9⟩ := e9; subst e9); (try k_sweep); (try dsimp only); (try k_fold)))
local macro_rules | `(tactic| walk_at "call ref") => `(tactic| (k_here; k_dflt (show wpAny _ _ (call (Value.ref 1286) [Value.str _ _]) _ _ _); refine stopHere ?_))
local macro_rules | `(tactic| walk_at "call ref") => `(tactic| (k_here; k_dflt (show wpAny _ _ (call (Value.ref 1134) [Value.ref _]) _ _ _); refine stopHere ?_))
local macro_rules | `(tactic| walk_at "compareOp NotEq ref ref") => `(tactic| (k_here; refine stopHere ?_))
theorem seg3 {w p loose mean mg mb} (PD : DecOk) :
  ∀ (dp un : Nat) (gd : Option (List Code)) (cn : Str) (a : Addr) (ccd : Value) (A₀ : Around) (h₀ : Heap) (L : Addr) (s : Shared) (Q : Flow → Shared → Prop) (i4 : Int) (t4 t5 t7 : Tok) (one fr : Array UInt8) (m : Str → Option Value),
    TextOk one fr → Below A₀ h₀ [] h₀ → Fr h₀ L s.heap m → m (PySem.Str.ofString "more") = some (.int i4 t4) → m (PySem.Str.ofString "one") = some (.bytes one t5) → one.size = 32 → m (PySem.Str.ofString "front") = some (.bytes fr t7) →
    (Hx.hd.heap_1 w.params).In h₀ → News h₀ L s.heap [] → Top p loose mean mg mb h₀ → dp + 200 < recursionLimit → un + 8 * 200 < cLine →
    (∀ (h' : Heap) (tk' : Nat) (m' : Str → Option Value) (t8 : Tok), Fr h₀ L h' m' → m' (PySem.Str.ofString "text") = some (.str (encCheck (fr ++ one ++ #[1])) t8) → (∀ y, y ∉ [PySem.Str.ofString "text"] → m' y = m y) → News h₀ L h' [] →
      wpN (model PySem.Challenge.rw_fc0054_01.row.prog w) (ktrTop dp un gd cn lawDef.2 L a ccd [] []) (execs (lawDef.1.drop 9) (envOf cn lawDef.2 L a ccd)) Q (fun _ _ => False) { s with heap := h', toks := tk' }) →
      wpN (model PySem.Challenge.rw_fc0054_01.row.prog w) (ktrTop dp un gd cn lawDef.2 L a ccd [] []) (execs (lawDef.1.drop 7) (envOf cn lawDef.2 L a ccd)) Q (fun _ _ => False) s := by
  intro dp un gd cn a ccd A₀ h₀ L s Q i4 t4 t5 t7 one fr m PT B F e1 e2 h32 e3 X N T hd hu cont
  obtain ⟨F, hA⟩ := (((FrA.start F).name e1).name e2).name e3
  obtain ⟨x1, x2, x3, ⟨nv, x4, x5⟩, x6⟩ := PT
  have hfs : fr.size = 1 := by rcases x5 with ⟨_, rfl⟩ | ⟨_, rfl⟩ <;> rfl
  revert X; k_fill; intro X
  k_dflt (show wpN _ (ktrTop _ _ _ _ ⟨_, _, _, _, _⟩ _ _ _ _ _) (execs (_ :: _) (envOf _ ⟨_, _, _, _, _⟩ _ _ _)) _ _ _)
  refine N_execs_consA ?_
  k_steps
  refine N_execs_consA ?_
  k_steps
  unfold Stop
  rename Fr _ _ _ _ => F1
  rename News _ _ _ _ => N1
  obtain ⟨d1, d2⟩ := PD _ (Nat.le_trans x2 (by decide))
  refine useW B F1 X N1 T rfl (from_wif_ok _ _ (by omega) x3 d1) (by omega) (by omega) ?_ ?_
  rotate_left
  · intro e cls G h' tk' hR
    rw [x4] at hR
    cases hR.1
  intro k c nv' D x t i1 i2 i3 u1 u2 u3 n h' tk' hR F2 N2 l2 lt2
  rw [x4] at hR
  obtain ⟨rfl, rfl, rfl⟩ : one = k ∧ true = c ∧ nv = nv' := by
    injection hR with h
    injection h with h1 h2
    injection h2 with h3 h4
    exact ⟨h1, h3, h4⟩
  clear F1 N1 hR
  have lt2 := ltN lt2
  k_steps
  unfold Stop
  rename Fr _ _ _ _ => F1
  rename News _ _ _ _ => N1
  refine useG B F1 X N1 T rfl (key_wif x one fr nv h32 x5) ⟨D, i1, i2, i3, t, u1, u2, u3, n, by k_mem, by k_mem⟩ (by omega) (by omega) ?_
  intro v h4 tk4 hv F4 N4
  obtain ⟨t10, rfl⟩ := hv
  clear F1 N1
  k_steps
  · rename (_ != _) = true => hC
    exfalso
    simp at hC
  unfold Stop
  rename (_ != _) = false => hC
  clear hC
  rename Fr _ _ _ _ => F1
  rename News _ _ _ _ => N1
  refine useT B F1 X N1 T rfl (law_due_ok _ _ (by omega) x3 d2) (by omega) (by omega) ?_ ?_
  · intro hR
    rw [x6] at hR
    cases hR
  intro k c D3 t3 h5 tk5 hR F5 N5 l5
  rw [x6] at hR
  obtain ⟨rfl, rfl⟩ : one = k ∧ true = c := by
    injection hR with h
    injection h with h1 h2
    exact ⟨h1, h2⟩
  clear F1 N1 hR
  k_steps
  unfold Stop
  rename Fr _ _ _ _ => F1
  rename News _ _ _ _ => N1
  refine ne_tup_same N1 (.tail _ (.head _)) (.head _) (show un < cLine by omega) ?_
  k_steps
  rename Fr _ _ _ _ => F6
  rename News _ _ _ _ => N6
  exact cont _ _ _ _ F6 rfl (fun y hy => (if_neg (ne_of_out hy)).trans (hA y)) (news_drop N6 fun _ h => nomatch h)
end
section
def TurnedOk : Prop := ∀ x : PySem.Str, toldOf x = dueOf x
local macro_rules | `(tactic| walk_at "call ref") => `(tactic| (k_here; k_dflt (show wpAny _ _ (call (Value.ref 1293) [Value.str _ _]) _ _ _); refine stopHere ?_))
local macro_rules | `(tactic| walk_at "call ref") => `(tactic| (k_here; k_dflt (show wpAny _ _ (call (Value.ref 1286) [Value.str _ _]) _ _ _); refine stopHere ?_))
/-- one turn of the second loop -/
theorem turn5 {w p loose mean mg mb} (P : TurnedOk) (PD : DecOk) :
  ∀ (dp un : Nat) (gd : Option (List Code)) (cn : Str) (a : Addr) (ccd : Value) (A₀ : Around) (h₀ : Heap) (L : Addr) (s : Shared) (Q : Flow → Shared → Prop) (x : PySem.Str) (t : Tok) (m : Str → Option Value) (news : List (Addr × Obj)),
    (hz : x.length ≤ 90) → (∀ c ∈ x.cps.toList, c < 128) →
    Below A₀ h₀ [] h₀ → Fr h₀ L s.heap m → m (PySem.Str.ofString "turned") = some (.str x t) → (Hx.hd.heap_1 w.params).In h₀ → News h₀ L s.heap news → Top p loose mean mg mb h₀ → dp + 200 < recursionLimit → un + 8 * 200 < cLine →
    (∀ (h' : Heap) (tk' : Nat), Fr h₀ L h' m → News h₀ L h' news → Q .next { s with heap := h', toks := tk' }) →
      wpAny (model PySem.Challenge.rw_fc0054_01.row.prog w) (ktrTop dp un gd cn lawDef.2 L a ccd [] []) (execs (forBody (lawDef.1.drop 11)) (envOf cn lawDef.2 L a ccd)) Q (fun _ _ => False) s := by
  intro dp un gd cn a ccd A₀ h₀ L s Q x t m news hz hc B F e1 X N T hd hu cont
  have hP := P x
  obtain ⟨d1, d2⟩ := PD x hz
  replace F := (FrA.start F).name e1 |>.1
  revert X; k_fill; intro X
  k_dflt (show wpAny _ (ktrTop _ _ _ _ ⟨_, _, _, _, _⟩ _ _ _ _ _) (execs (_ :: _) (envOf _ ⟨_, _, _, _, _⟩ _ _ _)) _ _ _)
  k_steps
  unfold Stop
  rename Fr _ _ _ _ => F1
  rename News _ _ _ _ => N1
  refine use0T (by k_asm) F1 (by k_asm) N1 (by k_asm) rfl (law_told_ok _ _ (by omega) hc d1) (by omega) (by omega) ?_ ?_
  · intro hR h' tk' F' N'
    clear F1 N1
    k_steps
    unfold Stop
    rename Fr _ _ _ _ => F2
    rename News _ _ _ _ => N2
    refine useT (by k_asm) F2 (by k_asm) N2 (by k_asm) rfl (law_due_ok x _ (by omega) hc d2) (by omega) (by omega) ?_ ?_
    · intro hR2 h' tk' F' N'
      clear F2 N2
      refine ne_none ?_
      k_steps
      rename Fr _ _ _ _ => F2
      rename News _ _ _ _ => N2
      exact cont _ _ (Fr.eqv F2 (fun y => by by_cases h : y = PySem.Str.ofString "turned" <;> simp [h, e1])) N2
    · intro k c D t' h' tk' hR2
      rw [← hP, hR] at hR2
      cases hR2
  · intro k c D t' h' tk' hR F' N' l'
    clear F1 N1
    k_steps
    unfold Stop
    rename Fr _ _ _ _ => F2
    rename News _ _ _ _ => N2
    refine useT (by k_asm) F2 (by k_asm) N2 (by k_asm) rfl (law_due_ok x _ (by omega) hc d2) (by omega) (by omega) ?_ ?_
    · intro hR2
      rw [← hP, hR] at hR2
      cases hR2
    · intro k2 c2 D2 t2 h2 tk2 hR2 F3 N3 l3
      have hkc : k = k2 ∧ c = c2 := by
        rw [← hP, hR] at hR2
        injection hR2 with h
        injection h with h1 h2
        exact ⟨h1, h2⟩
      obtain ⟨rfl, rfl⟩ := hkc
      clear F2 N2
      refine ne_tup_same N3 (.tail _ (.head _)) (.head _) (show un < cLine by omega) ?_
      k_steps
      rename Fr _ _ _ _ => F2
      rename News _ _ _ _ => N2
      exact cont _ _ (Fr.eqv F2 (fun y => by by_cases h : y = PySem.Str.ofString "turned" <;> simp [h, e1])) (news_drop N2 fun q hq => .tail _ (.tail _ hq))
theorem sign_small (i : Int) : ∀ c ∈ (PySem.Txt.item (PySem.Str.ofString "0123456789ABCDEFGHIJKLMNOPQRSTUVWXYZabcdefghijklmnopqrstuvwxyz") (i.fmod 62)).cps.toList, c < 128 := by
  have h0 := Int.fmod_nonneg_of_pos i (show (0 : Int) < 62 by decide)
  have h1 := Int.fmod_lt_of_pos i (show (0 : Int) < 62 by decide)
  obtain ⟨n, hn⟩ := Int.eq_ofNat_of_zero_le h0
  rw [hn] at h1 ⊢
  have h : ∀ n : Nat, n < 62 → ∀ c ∈ (PySem.Txt.item (PySem.Str.ofString "0123456789ABCDEFGHIJKLMNOPQRSTUVWXYZabcdefghijklmnopqrstuvwxyz") (n : Int)).cps.toList, c < 128 := by decide +kernel
  exact h n (by omega)
local macro_rules | `(tactic| walk_at "pyIter ref") => `(tactic| (k_here; refine stopHere ?_))
theorem seg4 {w p loose mean mg mb} (P : TurnedOk) (PD : DecOk) :
  ∀ (dp un : Nat) (gd : Option (List Code)) (cn : Str) (a : Addr) (ccd : Value) (A₀ : Around) (h₀ : Heap) (L : Addr) (s : Shared) (Q : Flow → Shared → Prop) (i4 : Int) (t4 t5 t8 : Tok) (x : PySem.Str) (m : Str → Option Value),
    1 ≤ x.length → x.length ≤ 80 → (∀ c ∈ x.cps.toList, c < 128) → Below A₀ h₀ [] h₀ → Fr h₀ L s.heap m → m (PySem.Str.ofString "more") = some (.int i4 t4) → m (PySem.Str.ofString "text") = some (.str x t8) →
    (Hx.hd.heap_1 w.params).In h₀ → News h₀ L s.heap [] → Top p loose mean mg mb h₀ → dp + 200 < recursionLimit → un + 8 * 200 < cLine →
    (∀ (h' : Heap) (tk' : Nat) (m' : Str → Option Value), Fr h₀ L h' m' → (∀ y, y ∉ [PySem.Str.ofString "k", PySem.Str.ofString "sign", PySem.Str.ofString "turned"] → m' y = m y) → News h₀ L h' [] →
      wpN (model PySem.Challenge.rw_fc0054_01.row.prog w) (ktrTop dp un gd cn lawDef.2 L a ccd [] []) (execs (lawDef.1.drop 12) (envOf cn lawDef.2 L a ccd)) Q (fun _ _ => False) { s with heap := h', toks := tk' }) →
      wpN (model PySem.Challenge.rw_fc0054_01.row.prog w) (ktrTop dp un gd cn lawDef.2 L a ccd [] []) (execs (lawDef.1.drop 9) (envOf cn lawDef.2 L a ccd)) Q (fun _ _ => False) s := by
  intro dp un gd cn a ccd A₀ h₀ L s Q i4 t4 t5 t8 x m x1 x2 x3 B F e1 e2 X N T hd hu cont
  obtain ⟨F, hA⟩ := ((FrA.start F).name e1).name e2
  revert X; k_fill; intro X
  k_dflt (show wpN _ (ktrTop _ _ _ _ ⟨_, _, _, _, _⟩ _ _ _ _ _) (execs (_ :: _) (envOf _ ⟨_, _, _, _, _⟩ _ _ _)) _ _ _)
  refine N_execs_consA ?_
  k_steps
  refine N_execs_consA ?_
  k_steps
  dsimp only
  rename Fr _ _ _ _ => F1
  rename News _ _ _ _ => N1
  rename PySem.Str.length _ = 1 => hs1
  have hs2 := sign_small (i4.fdiv 64)
  revert F1 hs1 hs2
  generalize PySem.Txt.item (PySem.Str.ofString "0123456789ABCDEFGHIJKLMNOPQRSTUVWXYZabcdefghijklmnopqrstuvwxyz") ((i4.fdiv 64).fmod 62) = sg
  have hk0 : 0 ≤ i4.fmod (x.length : Int) := Int.fmod_nonneg_of_pos _ (by omega)
  have hk1 : i4.fmod (x.length : Int) < x.length := Int.fmod_lt_of_pos _ (by omega)
  revert hk0 hk1
  generalize i4.fmod (x.length : Int) = kk
  intro hk0 hk1 hs1 F1 hs2
  have hsg : Small 1 sg := ⟨Nat.le_of_eq hs1, hs2⟩
  refine N_execs_cons (N_For ?_)
  k_steps
  unfold Stop
  rename Fr _ _ _ _ => F2
  rename News _ _ _ _ => N2
  refine N_loop (names := [PySem.Str.ofString "turned"]) rfl F2 N2 (.head _) ?_ ?_
  · intro i v I oI h' tk' m' hv F3 hm3 N3 l3
    have hv' : ∃ y t, v = Value.str y t ∧ Small 90 y := by
      obtain ⟨n, rfl⟩ := Int.eq_ofNat_of_zero_le hk0
      have hn : n < x.length := by omega
      have h1 := Array.mem_of_getElem? hv
      simp only [List.mem_toArray, List.mem_cons, List.not_mem_nil, or_false] at h1
      rcases h1 with rfl | rfl | rfl | rfl
      · exact ⟨_, _, rfl, (Small.app (Small.app (small_take x3 (Nat.le_of_lt hn)) hsg) (small_drop x3 (n := n + 1) hn)).mono (by omega)⟩
      · exact ⟨_, _, rfl, (Small.app (small_take x3 (Nat.le_of_lt hn)) (small_drop x3 (n := n + 1) hn)).mono (by omega)⟩
      · exact ⟨_, _, rfl, (Small.app (Small.app (small_take x3 (Nat.le_of_lt hn)) hsg) (small_drop x3 (Nat.le_of_lt hn))).mono (by omega)⟩
      · exact ⟨_, _, rfl, (small_rev x3 _).mono (by omega)⟩
    obtain ⟨y, ty, rfl, hy1, hy2⟩ := hv'
    clear hv F2 N2
    k_steps
    rename Fr _ _ _ _ => F4
    rename News _ _ _ _ => N4
    refine wpN_any (turn5 P PD _ _ _ _ _ _ A₀ h₀ L _ _ y ty _ _ hy1 hy2 B F4 (if_pos rfl) X N4 T hd hu ?_)
    intro h5 tk5 F5 N5
    refine ⟨h5, tk5, _, rfl, F5, fun z hz => ?_, N5⟩
    rw [if_neg (ne_of_out hz), hm3 z hz]
  · intro h' tk' m' F3 hm3 N3
    dsimp only
    refine cont h' tk' m' F3 (fun y hy => ?_) (news_drop N3 (fun _ h => nomatch h))
    simp only [List.mem_cons, List.not_mem_nil, or_false, not_or] at hy
    rw [hm3 y (fun h => hy.2.2 (List.mem_singleton.mp h))]
    exact (if_neg hy.2.1).trans ((if_neg hy.1).trans (hA y))
end
section
local macro_rules | `(tactic| walk_at "no such key") => `(tactic| skip)
local macro_rules | `(tactic| walk_at "no such key") => `(tactic| skip)
local macro_rules | `(tactic| walk_at "no such key") => `(tactic| skip)
local macro_rules | `(tactic| walk_at "no such key") => `(tactic| skip)
local macro_rules | `(tactic| walk_at "no such key") => `(tactic| skip)
local macro_rules | `(tactic| walk_at "no such key") => `(tactic| skip)
local macro_rules | `(tactic| walk_at "no such key") => `(tactic| skip)
local macro_rules | `(tactic| walk_at "no such key") => `(tactic| skip)
local macro_rules | `(tactic| walk_at "no such key") => `(tactic| skip)
local macro_rules | `(tactic| walk_at "no such key") => `(tactic| skip)
local macro_rules | `(tactic| walk_at "no such key") => `(tactic| skip)
local macro_rules | `(tactic| walk_at "no such key") => `(tactic| skip)
def GreatOk : Prop := ∀ X : Nat, PR ≤ X → X < 256 ^ 32 → madeOf (oct 32 X) = none
local macro_rules | `(tactic| walk_at "call ref") => `(tactic| (k_here; k_dflt (show wpAny _ _ (call (Value.ref 1300) [Value.bytes _ _]) _ _ _); refine stopHere ?_))
theorem great_is (i : Int) : ∃ X : Nat, (57896044618658097711785492504343953926634992332820282019728792003956564819949 + i.fmod (2 ^ Int.toNat 256 - 57896044618658097711785492504343953926634992332820282019728792003956564819949) : Int) = (X : Int) ∧ PR ≤ X ∧ X < 256 ^ 32 := by
  have e : ((2 : Int) ^ Int.toNat 256 - 57896044618658097711785492504343953926634992332820282019728792003956564819949) = 57896044618658097711785492504343953926634992332820282019728792003956564819987 := by decide
  have e2 : (256 : Nat) ^ 32 = 57896044618658097711785492504343953926634992332820282019728792003956564819949 + 57896044618658097711785492504343953926634992332820282019728792003956564819987 := by decide
  have h0 := Int.fmod_nonneg_of_pos i (show (0 : Int) < 57896044618658097711785492504343953926634992332820282019728792003956564819987 by decide)
  have h1 := Int.fmod_lt_of_pos i (show (0 : Int) < 57896044618658097711785492504343953926634992332820282019728792003956564819987 by decide)
  rw [e]
  obtain ⟨X, hX⟩ := Int.eq_ofNat_of_zero_le h0
  rw [hX] at h1 ⊢
  refine ⟨57896044618658097711785492504343953926634992332820282019728792003956564819949 + X, by omega, ?_, ?_⟩
  · show 57896044618658097711785492504343953926634992332820282019728792003956564819949 ≤ _
    omega
  · rw [e2]
    omega
theorem made33 {b : Array UInt8} (h : b.size = 32) : madeOf (b ++ #[1]) = none := by
  unfold madeOf
  refine if_neg ?_
  rintro ⟨h1, _⟩
  rw [Array.size_append, h] at h1
  revert h1
  decide
theorem seg5 {w p loose mean mg mb} (P : GreatOk) :
  ∀ (dp un : Nat) (gd : Option (List Code)) (cn : Str) (a : Addr) (ccd : Value) (A₀ : Around) (h₀ : Heap) (L : Addr) (s : Shared) (Q : Flow → Shared → Prop) (i4 : Int) (t4 t5 : Tok) (one : Array UInt8) (m : Str → Option Value),
    one.size = 32 → madeOf one = some one → Below A₀ h₀ [] h₀ → Fr h₀ L s.heap m → m (PySem.Str.ofString "more") = some (.int i4 t4) → m (PySem.Str.ofString "one") = some (.bytes one t5) →
    (Hx.hd.heap_1 w.params).In h₀ → News h₀ L s.heap [] → Top p loose mean mg mb h₀ → dp + 200 < recursionLimit → un + 8 * 200 < cLine →
    (∀ (h' : Heap) (tk' : Nat) (m' : Str → Option Value), Fr h₀ L h' m' → (∀ y, y ∉ [PySem.Str.ofString "great"] → m' y = m y) → News h₀ L h' [] →
      wpN (model PySem.Challenge.rw_fc0054_01.row.prog w) (ktrTop dp un gd cn lawDef.2 L a ccd [] []) (execs (lawDef.1.drop 14) (envOf cn lawDef.2 L a ccd)) Q (fun _ _ => False) { s with heap := h', toks := tk' }) →
      wpN (model PySem.Challenge.rw_fc0054_01.row.prog w) (ktrTop dp un gd cn lawDef.2 L a ccd [] []) (execs (lawDef.1.drop 12) (envOf cn lawDef.2 L a ccd)) Q (fun _ _ => False) s := by
  intro dp un gd cn a ccd A₀ h₀ L s Q i4 t4 t5 one m h32 hone B F e1 e2 X N T hd hu cont
  obtain ⟨F, hA⟩ := ((FrA.start F).name e1).name e2
  revert X; k_fill; intro X
  k_dflt (show wpN _ (ktrTop _ _ _ _ ⟨_, _, _, _, _⟩ _ _ _ _ _) (execs (_ :: _) (envOf _ ⟨_, _, _, _, _⟩ _ _ _)) _ _ _)
  refine N_execs_consA ?_
  k_steps
  rename Fr _ _ _ _ => F1
  obtain ⟨G, hG, g1, g2⟩ := great_is i4
  rw [hG] at F1
  refine N_execs_consA ?_
  k_steps
  unfold Stop
  refine to_big (X := G) (k := 32) (by decide) g2 ?_
  intro t8 k8
  k_steps
  unfold Stop
  rename Fr _ _ _ _ => F2
  rename News _ _ _ _ => N2
  refine use0 B F2 X N2 T rfl (law_made_ok _ _ (by simp)) (by omega) (by omega) ?_
  intro v h3 tk3 hR F3 N3
  rw [P G g1 g2] at hR
  subst hR
  clear F2 N2
  k_steps
  unfold Stop
  rename Fr _ _ _ _ => F2
  rename News _ _ _ _ => N2
  refine use0 B F2 X N2 T rfl (law_made_ok _ _ (by simp [h32])) (by omega) (by omega) ?_
  intro v h4 tk4 hR F4 N4
  rw [made33 h32] at hR
  subst hR
  clear F2 N2
  k_steps
  unfold Stop
  rename Fr _ _ _ _ => F2
  rename News _ _ _ _ => N2
  refine use0 B F2 X N2 T rfl (law_made_ok _ _ (by omega)) (by omega) (by omega) ?_
  intro v h5 tk5 hR F5 N5
  rw [hone] at hR
  obtain ⟨t9, rfl⟩ := hR
  clear F2 N2
  k_steps
  · rename (_ != _) = true => hC
    exfalso
    simp at hC
  rename Fr _ _ _ _ => F6
  rename News _ _ _ _ => N6
  exact cont _ _ _ F6 (fun y hy => (if_neg (ne_of_out hy)).trans (hA y)) N6
end
section
/-- a secret that makes a key -/
def SecOk (k : Array UInt8) : Prop := k.size = 32 ∧ 0 < num k ∧ num k < 57896044618658097711785492504343953926634992332820282019728792003956564819949
theorem seg6 {w p loose mean mg mb} :
  ∀ (dp un : Nat) (gd : Option (List Code)) (cn : Str) (a : Addr) (ccd : Value) (A₀ : Around) (h₀ : Heap) (L : Addr) (s : Shared) (Q : Flow → Shared → Prop) (t5 t6 : Tok) (one two : Array UInt8) (m : Str → Option Value),
    SecOk one → SecOk two → Below A₀ h₀ [] h₀ → Fr h₀ L s.heap m → m (PySem.Str.ofString "one") = some (.bytes one t5) → m (PySem.Str.ofString "other") = some (.bytes two t6) →
    (Hx.hd.heap_1 w.params).In h₀ → News h₀ L s.heap [] → Top p loose mean mg mb h₀ → dp + 200 < recursionLimit → un + 8 * 200 < cLine →
    (∀ (h' : Heap) (tk' : Nat) (m' : Str → Option Value) (l k1 k2 k3 : Addr) (n : Nat) (news : List (Addr × Obj)), Fr h₀ L h' m' → m' (PySem.Str.ofString "keys") = some (.ref l) → (∀ y, y ∉ [PySem.Str.ofString "keys"] → m' y = m y) →
      News h₀ L h' news → (l, listOf #[.ref k1, .ref k2, .ref k3] n) ∈ news → IsKey k1 one true (.ref 199) news → IsKey k2 two true (.ref 199) news → IsKey k3 one false (.ref 199) news →
      wpN (model PySem.Challenge.rw_fc0054_01.row.prog w) (ktrTop dp un gd cn lawDef.2 L a ccd [] []) (execs (lawDef.1.drop 15) (envOf cn lawDef.2 L a ccd)) Q (fun _ _ => False) { s with heap := h', toks := tk' }) →
      wpN (model PySem.Challenge.rw_fc0054_01.row.prog w) (ktrTop dp un gd cn lawDef.2 L a ccd [] []) (execs (lawDef.1.drop 14) (envOf cn lawDef.2 L a ccd)) Q (fun _ _ => False) s := by
  intro dp un gd cn a ccd A₀ h₀ L s Q t5 t6 one two m ⟨s1, s2, s3⟩ ⟨s4, s5, s6⟩ B F e1 e2 X N T hd hu cont
  obtain ⟨F, hA⟩ := ((FrA.start F).name e1).name e2
  revert X; k_fill; intro X
  k_dflt (show wpN _ (ktrTop _ _ _ _ ⟨_, _, _, _, _⟩ _ _ _ _ _) (execs (_ :: _) (envOf _ ⟨_, _, _, _, _⟩ _ _ _)) _ _ _)
  refine N_execs_consA ?_
  k_steps
  all_goals first | (exfalso; omega) | skip
  rename Fr h₀ _ _ _ => F1
  rename News h₀ _ _ _ => N1
  exact cont _ _ _ _ _ _ _ _ _ F1 rfl (fun y hy => (if_neg (ne_of_out hy)).trans (hA y)) N1 (by k_mem) ⟨_, _, _, _, _, _, _, _, _, by k_mem, by k_mem⟩ ⟨_, _, _, _, _, _, _, _, _, by k_mem, by k_mem⟩ ⟨_, _, _, _, _, _, _, _, _, by k_mem, by k_mem⟩
end
section
local macro_rules | `(tactic| walk_at "no such key") => `(tactic| skip)
local macro_rules | `(tactic| walk_at "no such key") => `(tactic| skip)
local macro_rules | `(tactic| walk_at "no such key") => `(tactic| skip)
local macro_rules | `(tactic| walk_at "no such key") => `(tactic| skip)
local macro_rules | `(tactic| walk_at "no such key") => `(tactic| skip)
local macro_rules | `(tactic| walk_at "no such key") => `(tactic| skip)
local macro_rules | `(tactic| walk_at "no such key") => `(tactic| skip)
local macro_rules | `(tactic| walk_at "no such key") => `(tactic| skip)
local macro_rules | `(tactic| walk_at "no such key") => `(tactic| skip)
local macro_rules | `(tactic| walk_at "no such key") => `(tactic| skip)
local macro_rules | `(tactic| walk_at "no such key") => `(tactic| skip)
local macro_rules | `(tactic| walk_at "no such key") => `(tactic| skip)
theorem IsKey.mono {x : Addr} {k : Array UInt8} {c : Bool} {nv : Value} {news news' : List (Addr × Obj)} (h : IsKey x k c nv news) (hs : ∀ p ∈ news, p ∈ news') : IsKey x k c nv news' := by
  obtain ⟨D, i1, i2, i3, t, t1, t2, t3, n, G1, G2⟩ := h
  exact ⟨D, i1, i2, i3, t, t1, t2, t3, n, hs _ G1, hs _ G2⟩
local macro_rules | `(tactic| walk_at "compareOp Gt ref") => `(tactic| (k_here; refine stopHere ?_))
local macro_rules | `(tactic| walk_at "compareOp Lt ref") => `(tactic| (k_here; refine stopHere ?_))
theorem turn7 {w p loose mean mg mb} :
  ∀ (dp un : Nat) (gd : Option (List Code)) (cn : Str) (a : Addr) (ccd : Value) (A₀ : Around) (h₀ : Heap) (L : Addr) (s : Shared) (Q : Flow → Shared → Prop) (x y : Addr) (k k2 : Array UInt8) (c c2 : Bool) (nv nv2 : Value) (m : Str → Option Value) (news : List (Addr × Obj)),
    k.size = 32 → k2.size = 32 → IsKey x k c nv news → IsKey y k2 c2 nv2 news →
    Below A₀ h₀ [] h₀ → Fr h₀ L s.heap m → m (PySem.Str.ofString "a") = some (.ref x) → m (PySem.Str.ofString "b") = some (.ref y) → (Hx.hd.heap_1 w.params).In h₀ → News h₀ L s.heap news → Top p loose mean mg mb h₀ → dp + 200 < recursionLimit → un + 8 * 200 < cLine →
    (∀ (h' : Heap) (tk' : Nat) (m' : Str → Option Value), Fr h₀ L h' m' → (∀ z, z ∉ [PySem.Str.ofString "alike"] → m' z = m z) → News h₀ L h' news → Q .next { s with heap := h', toks := tk' }) →
      wpN (model PySem.Challenge.rw_fc0054_01.row.prog w) (ktrTop dp un gd cn lawDef.2 L a ccd [] []) (execs (forBody (forBody (lawDef.1.drop 15))) (envOf cn lawDef.2 L a ccd)) Q (fun _ _ => False) s := by
  intro dp un gd cn a ccd A₀ h₀ L s Q x y k k2 c c2 nv nv2 m news z1 z2 G1 G2 B F e1 e2 X N T hd hu cont
  obtain ⟨F, hA⟩ := ((FrA.start F).name e1).name e2
  have G1' := G1
  have G2' := G2
  obtain ⟨D, i1, i2, i3, t, t1, t2, t3, n, G3, G4⟩ := G1'
  obtain ⟨D', j1, j2, j3, u, u1, u2, u3, n', G5, G6⟩ := G2'
  revert X; k_fill; intro X
  k_dflt (show wpN _ (ktrTop _ _ _ _ ⟨_, _, _, _, _⟩ _ _ _ _ _) (execs (_ :: _) (envOf _ ⟨_, _, _, _, _⟩ _ _ _)) _ _ _)
  refine N_execs_consA ?_
  k_steps
  refine N_execs_cons (N_If (N_isTrue_or (N_isTrue_Compare1 (N_Compare1 (wpN_any ?_)))))
  k_steps
  refine wpN_any ?_
  k_steps
  rename Fr h₀ _ _ _ => F1
  rename News h₀ _ _ _ => N1
  k_dflt (refine' N_cmp (K := Hx.hd.heap_1 w.params) (f := 837) ⟨by decide, by decide, by decide, by decide⟩ (show un < cLine by omega) F1 X ?kI ?kJ ?ks ?kf ?_; (case kI => k_inst); (case kJ => k_inst); (case ks => k_is); (case kf => k_is))
  refine useMN B F1 X N1 T rfl (key_eq x y k k2 c c2 nv nv2 z1 z2) ⟨G1, G2⟩ (by omega) (by omega) ?_
  rintro v h4 tk4 rfl F4 N4
  refine ⟨_, rfl, ?_⟩
  clear F1 N1
  refine wpN_any ?_
  k_steps
  refine wpN_any (ne_bb ?_)
  refine wpN_any ?_
  k_steps
  dsimp only
  refine N_isTrue_or (N_isTrue_Compare1 (N_Compare1 (wpN_any ?_)))
  k_steps
  refine wpN_any ?_
  k_steps
  rename Fr h₀ _ _ _ => F1
  rename News h₀ _ _ _ => N1
  k_dflt (refine' N_cmp (K := Hx.hd.heap_1 w.params) (f := 844) ⟨by decide, by decide, by decide, by decide⟩ (show un < cLine by omega) F1 X ?kI ?kJ ?ks ?kf ?_; (case kI => k_inst); (case kJ => k_inst); (case ks => k_is); (case kf => k_is))
  refine useMN B F1 X N1 T rfl (key_ne x y k k2 c c2 nv nv2 z1 z2) ⟨G1, G2⟩ (by omega) (by omega) ?_
  rintro v h5 tk5 rfl F5 N5
  refine ⟨_, rfl, ?_⟩
  clear F1 N1
  refine wpN_any ?_
  k_steps
  refine wpN_any (eq_nb ?_)
  refine wpN_any ?_
  k_steps
  dsimp only
  refine N_isTrue_or (N_isTrue_Compare1 (N_Compare1 (wpN_any ?_)))
  k_steps
  refine wpN_any ?_
  k_steps
  rename Fr h₀ _ _ _ => F1
  rename News h₀ _ _ _ => N1
  k_dflt (refine' N_cmp (K := Hx.hd.heap_1 w.params) (f := 901) ⟨by decide, by decide, by decide, by decide⟩ (show un < cLine by omega) F1 X ?kI ?kJ ?ks ?kf ?_; (case kI => k_inst); (case kJ => k_inst); (case ks => k_is); (case kf => k_is))
  refine wpN_any (useG B F1 X N1 T rfl (key_gt x y k k2 c c2 nv nv2 z1 z2) ⟨G1, G2⟩ (by omega) (by omega) ?_)
  rintro v h6 tk6 rfl F6 N6
  refine ⟨_, rfl, ?_⟩
  clear F1 N1
  refine wpN_any ?_
  k_steps
  refine wpN_any (ne_bb ?_)
  refine wpN_any ?_
  k_steps
  try dsimp only
  refine N_isTrue_or (N_isTrue_Compare1 (N_Compare1 (wpN_any ?_)))
  k_steps
  refine wpN_any ?_
  k_steps
  rename Fr h₀ _ _ _ => F1
  rename News h₀ _ _ _ => N1
  k_dflt (refine' N_cmp (K := Hx.hd.heap_1 w.params) (f := 894) ⟨by decide, by decide, by decide, by decide⟩ (show un < cLine by omega) F1 X ?kI ?kJ ?ks ?kf ?_; (case kI => k_inst); (case kJ => k_inst); (case ks => k_is); (case kf => k_is))
  refine wpN_any (useG B F1 X N1 T rfl (key_lt x y k k2 c c2 nv nv2 z1 z2) ⟨G1, G2⟩ (by omega) (by omega) ?_)
  rintro v h6 tk6 rfl F6 N6
  refine ⟨_, rfl, ?_⟩
  clear F1 N1
  refine wpN_any ?_
  k_steps
  refine wpN_any (ne_bb ?_)
  refine wpN_any ?_
  k_steps
  try dsimp only
  refine N_isTrue_or_nil ?_
  rw [if_neg Bool.false_ne_true]
  refine N_execs_nil ?_
  dsimp only
  refine N_execs_nil ?_
  rename Fr h₀ _ _ _ => F1
  rename News h₀ _ _ _ => N1
  exact cont _ _ _ F1 (fun z hz => (if_neg (ne_of_out hz)).trans (hA z)) N1
end
section
local macro_rules | `(tactic| walk_at "pyIter ref") => `(tactic| (k_here; refine stopHere ?_))
theorem key_item {one two : Array UInt8} {k1 k2 k3 : Addr} {news : List (Addr × Obj)} (h1 : one.size = 32) (h2 : two.size = 32) (G1 : IsKey k1 one true (.ref 199) news) (G2 : IsKey k2 two true (.ref 199) news) (G3 : IsKey k3 one false (.ref 199) news)
    {i : Nat} {v : Value} (hv : #[Value.ref k1, .ref k2, .ref k3][i]? = some v) : ∃ x k c, v = .ref x ∧ k.size = 32 ∧ IsKey x k c (.ref 199) news := by
  have h := Array.mem_of_getElem? hv
  simp only [List.mem_toArray, List.mem_cons, List.not_mem_nil, or_false] at h
  rcases h with rfl | rfl | rfl
  · exact ⟨_, _, _, rfl, h1, G1⟩
  · exact ⟨_, _, _, rfl, h2, G2⟩
  · exact ⟨_, _, _, rfl, h1, G3⟩
theorem seg7 {w p loose mean mg mb} :
  ∀ (dp un : Nat) (gd : Option (List Code)) (cn : Str) (a : Addr) (ccd : Value) (A₀ : Around) (h₀ : Heap) (L : Addr) (s : Shared) (Q : Flow → Shared → Prop) (l k1 k2 k3 : Addr) (n : Nat) (one two : Array UInt8) (m : Str → Option Value) (news : List (Addr × Obj)),
    one.size = 32 → two.size = 32 → IsKey k1 one true (.ref 199) news → IsKey k2 two true (.ref 199) news → IsKey k3 one false (.ref 199) news → (l, listOf #[.ref k1, .ref k2, .ref k3] n) ∈ news →
    Below A₀ h₀ [] h₀ → Fr h₀ L s.heap m → m (PySem.Str.ofString "keys") = some (.ref l) → (Hx.hd.heap_1 w.params).In h₀ → News h₀ L s.heap news → Top p loose mean mg mb h₀ → dp + 200 < recursionLimit → un + 8 * 200 < cLine →
    (∀ (h' : Heap) (tk' : Nat) (m' : Str → Option Value), Fr h₀ L h' m' → (∀ y, y ∉ [PySem.Str.ofString "a", PySem.Str.ofString "b", PySem.Str.ofString "alike"] → m' y = m y) → News h₀ L h' news →
      wpN (model PySem.Challenge.rw_fc0054_01.row.prog w) (ktrTop dp un gd cn lawDef.2 L a ccd [] []) (execs (lawDef.1.drop 16) (envOf cn lawDef.2 L a ccd)) Q (fun _ _ => False) { s with heap := h', toks := tk' }) →
      wpN (model PySem.Challenge.rw_fc0054_01.row.prog w) (ktrTop dp un gd cn lawDef.2 L a ccd [] []) (execs (lawDef.1.drop 15) (envOf cn lawDef.2 L a ccd)) Q (fun _ _ => False) s := by
  intro dp un gd cn a ccd A₀ h₀ L s Q l k1 k2 k3 n one two m news z1 z2 G1 G2 G3 hl B F e1 X N T hd hu cont
  obtain ⟨F, hA⟩ := (FrA.start F).name e1
  revert X; k_fill; intro X
  k_dflt (show wpN _ (ktrTop _ _ _ _ ⟨_, _, _, _, _⟩ _ _ _ _ _) (execs (_ :: _) (envOf _ ⟨_, _, _, _, _⟩ _ _ _)) _ _ _)
  refine N_execs_cons (N_For ?_)
  k_steps
  unfold Stop
  rename Fr _ _ _ _ => F1
  rename News _ _ _ _ => N1
  refine N_loop (names := [PySem.Str.ofString "a", PySem.Str.ofString "b", PySem.Str.ofString "alike"]) rfl F1 N1 hl ?_ ?_
  · intro i v I oI h' tk' m' hv F3 hm3 N3 l3
    obtain ⟨x, kx, cx, rfl, hx, Gx⟩ := key_item z1 z2 G1 G2 G3 hv
    have e3 : m' (PySem.Str.ofString "keys") = some (.ref l) := (hm3 _ (by decide)).trans ((hA _).trans e1)
    clear hv F1 N1
    obtain ⟨F3, hA3⟩ := (FrA.start F3).name e3
    k_steps
    refine N_execs_cons (N_For (Q := _) ?_)
    k_steps
    unfold Stop
    rename Fr _ _ _ _ => F4
    rename News _ _ _ _ => N4
    refine N_loop (names := [PySem.Str.ofString "b", PySem.Str.ofString "alike"]) rfl F4 N4 (.tail _ hl) ?_ ?_
    · intro i2 v2 I2 oI2 h2 tk2 m2 hv2 F5 hm5 N5 l5
      obtain ⟨y, ky, cy, rfl, hy, Gy⟩ := key_item z1 z2 G1 G2 G3 hv2
      have e5 : m2 (PySem.Str.ofString "a") = some (.ref x) := hm5 _ (by decide)
      clear hv2 F4 N4
      obtain ⟨F5, hA5⟩ := (FrA.start F5).name e5
      k_steps
      rename Fr _ _ _ _ => F6
      rename News _ _ _ _ => N6
      refine turn7 _ _ _ _ _ _ A₀ h₀ L _ _ x y kx ky cx cy _ _ _ _ hx hy (Gx.mono fun q hq => .tail _ (.tail _ hq)) (Gy.mono fun q hq => .tail _ (.tail _ hq)) B F6 rfl rfl X N6 T hd hu ?_
      intro h7 tk7 m7 F7 hm7 N7
      refine ⟨h7, tk7, _, rfl, F7, fun z hz => ?_, N7⟩
      have hz' : z ≠ PySem.Str.ofString "b" ∧ z ≠ PySem.Str.ofString "alike" := by simpa using hz
      exact (hm7 z (fun h => hz'.2 (List.mem_singleton.mp h))).trans ((if_neg hz'.1).trans ((hA5 z).trans (hm5 z hz)))
    · intro h8 tk8 m8 F8 hm8 N8
      dsimp only
      refine N_execs_nil ?_
      refine ⟨h8, tk8, _, rfl, F8, fun z hz => ?_, N8⟩
      have hz' : z ≠ PySem.Str.ofString "a" ∧ z ≠ PySem.Str.ofString "b" ∧ z ≠ PySem.Str.ofString "alike" := by simpa using hz
      exact (hm8 z (by simp [hz'.2])).trans ((if_neg hz'.1).trans ((hA3 z).trans (hm3 z hz)))
  · intro h' tk' m' F3 hm3 N3
    dsimp only
    exact cont h' tk' m' F3 (fun y hy => (hm3 y hy).trans (hA y)) N3
end
section
local macro_rules | `(tactic| walk_at "no such key") => `(tactic| skip)
local macro_rules | `(tactic| walk_at "no such key") => `(tactic| skip)
local macro_rules | `(tactic| walk_at "no such key") => `(tactic| skip)
local macro_rules | `(tactic| walk_at "no such key") => `(tactic| skip)
local macro_rules | `(tactic| walk_at "no such key") => `(tactic| skip)
local macro_rules | `(tactic| walk_at "no such key") => `(tactic| skip)
local macro_rules | `(tactic| walk_at "no such key") => `(tactic| skip)
local macro_rules | `(tactic| walk_at "no such key") => `(tactic| skip)
local macro_rules | `(tactic| walk_at "no such key") => `(tactic| skip)
local macro_rules | `(tactic| walk_at "no such key") => `(tactic| skip)
local macro_rules | `(tactic| walk_at "no such key") => `(tactic| skip)
local macro_rules | `(tactic| walk_at "no such key") => `(tactic| skip)
/-- what the plain laws say of the signature -/
def SignOk (one two : Array UInt8) : Prop :=
  verOf (sigOf (sha (#[97] ++ one)) one) (sha (#[97] ++ one)) one = true ∧ verOf (sigOf (sha (#[97] ++ one)) one) (sha (#[98] ++ one)) one = false ∧
  verOf (sigOf (sha (#[97] ++ one)) one) (sha (#[97] ++ one)) two = (one.toList == two.toList)
section
variable {w : World} {p : Program} {loose : List Str} {mean : ExcName → Option Value} {mg mb : Str → Option Value} {dp un : Nat} {gd : Option (List Code)} {cn : Str} {cs : Scope} {a : Addr} {ccd : Value} {cl : List (Str × Addr)} {outer : List Env} {A₀ : Around} {base h₀ : Heap} {L : Addr} {m : Str → Option Value} {news : List (Addr × Obj)} {s : Shared} {Q E : Value → Shared → Prop}
theorem useSign {x : Addr} {k : Array UInt8} {c : Bool} {nv : Value} {b : Array UInt8} {tb : Tok} (B : Below A₀ base outer h₀) (F : Fr h₀ L s.heap m) (X : (Hx.hd.heap_1 w.params).In h₀) (N : News h₀ L s.heap news) (T : Top p loose mean mg mb h₀) (hk : cs.kind = .function) (hk1 : k.size = 32) (hb : b.size = 32) (G : IsKey x k c nv news) (hd : dp + 60 < recursionLimit) (hu : un + 8 * 60 < cLine)
    (ret : ∀ (y D : Addr) (i1 : Int) (t t1 n : Nat) (h' : Heap) (tk' : Nat), Fr h₀ L h' m → News h₀ L h' ((y, instObj 959 D) :: (D, dictOf [⟨i1, .str (PySem.Str.ofString "_sig") t1, .bytes (sigOf b k) t⟩] n) :: news) → (∀ p ∈ news, p.1 < D) → D < y → Q (.ref y) { s with heap := h', toks := tk' }) :
    wpN (model PySem.Challenge.rw_fc0054_01.row.prog w) (ktrTop dp un gd cn cs L a ccd cl outer) (call (.ref 1214) [.ref x, .bytes b tb]) Q E s := wpN_noE (wpN_call (key_sign x k c nv hk1 b tb hb _ _ _ _ _ _ _ _ _ _ _ _ _ _ _ _ _ B F X N G T hk hd hu ret))
end
local macro_rules | `(tactic| walk_at "call ref") => `(tactic| (k_here; k_dflt (show wpAny _ _ (call (Value.ref 1228) [Value.ref _, Value.ref _, Value.bytes _ _]) _ _ _); refine stopHere ?_))
local macro_rules | `(tactic| walk_at "subscriptTail") => `(tactic| (k_here; (with_reducible show wpAny _ _ (subscriptTail _ _ (Value.ref _) (Value.int _ _)) _ _ _); refine stopHere ?_))
theorem seg8 {w p loose mean mg mb} :
  ∀ (dp un : Nat) (gd : Option (List Code)) (cn : Str) (a : Addr) (ccd : Value) (A₀ : Around) (h₀ : Heap) (L : Addr) (s : Shared) (Q : Flow → Shared → Prop) (l k1 k2 k3 : Addr) (n : Nat) (t5 t6 : Tok) (one two : Array UInt8) (m : Str → Option Value) (news : List (Addr × Obj)),
    one.size = 32 → two.size = 32 → SignOk one two → IsKey k1 one true (.ref 199) news → IsKey k2 two true (.ref 199) news → (l, listOf #[.ref k1, .ref k2, .ref k3] n) ∈ news →
    Below A₀ h₀ [] h₀ → Fr h₀ L s.heap m → m (PySem.Str.ofString "keys") = some (.ref l) → m (PySem.Str.ofString "one") = some (.bytes one t5) → m (PySem.Str.ofString "other") = some (.bytes two t6) → (Hx.hd.heap_1 w.params).In h₀ → News h₀ L s.heap news → Top p loose mean mg mb h₀ → dp + 200 < recursionLimit → un + 8 * 200 < cLine →
    (∀ (h' : Heap) (tk' : Nat) (m' : Str → Option Value), Fr h₀ L h' m' → Q (.ret (.bool true)) { s with heap := h', toks := tk' }) →
      wpN (model PySem.Challenge.rw_fc0054_01.row.prog w) (ktrTop dp un gd cn lawDef.2 L a ccd [] []) (execs (lawDef.1.drop 16) (envOf cn lawDef.2 L a ccd)) Q (fun _ _ => False) s := by
  intro dp un gd cn a ccd A₀ h₀ L s Q l k1 k2 k3 n t5 t6 one two m news z1 z2 ⟨v1, v2, v3⟩ G1 G2 hl B F e1 e2 e3 X N T hd hu cont
  replace F := (((FrA.start F).name e1).name e2).name e3 |>.1
  have G1' := G1
  have G2' := G2
  obtain ⟨D, i1, i2, i3, t, tt1, tt2, tt3, n, G3, G4⟩ := G1'
  obtain ⟨D', j1, j2, j3, u, u1, u2, u3, n', G5, G6⟩ := G2'
  revert X; k_fill; intro X
  k_dflt (show wpN _ (ktrTop _ _ _ _ ⟨_, _, _, _, _⟩ _ _ _ _ _) (execs (_ :: _) (envOf _ ⟨_, _, _, _, _⟩ _ _ _)) _ _ _)
  refine N_execs_consA ?_
  k_steps
  refine N_execs_cons (N_Assign_Name (N_method rfl rfl ?_))
  k_steps
  unfold Stop
  rename Fr _ _ _ _ => F1
  rename News _ _ _ _ => N1
  refine led_item (k := 0) (v := .ref k1) N1 (.tail _ hl) rfl (by decide) ?_
  k_steps
  refine calleeOf_few rfl ?_
  k_steps
  refine N_callWith (keeps_K (K := Hx.hd.heap_1 w.params) (by k_is)) (evalArgs_pl rfl rfl ?_)
  k_steps
  rename Fr _ _ _ _ => F1
  rename News _ _ _ _ => N1
  refine useSign B F1 X N1 T rfl z1 (sha_size _) (G1.mono fun q hq => .tail _ hq) (by omega) (by omega) ?_
  intro y9 D9 i9 t9 t19 n9 h4 tk4 F4 N4 l4 lt4
  have lt4 := ltN lt4
  clear F1 N1
  k_steps
  refine N_execs_consA ?_
  k_steps
  have hsz : (sigOf (sha (#[97] ++ one)) one).size = 32 := oct_size _ _
  unfold Stop
  rename Fr _ _ _ _ => F1
  rename News _ _ _ _ => N1
  refine led_item (k := 0) (v := .ref k1) N1 (.tail _ (.tail _ (.tail _ hl))) rfl (by decide) ?_
  k_steps
  unfold Stop
  rename Fr _ _ _ _ => F1
  rename News _ _ _ _ => N1
  refine useG B F1 X N1 T rfl (key_verify k1 y9 one (sigOf (sha (#[97] ++ one)) one) true (.ref 199) z1 hsz _ _ (sha_size _)) ⟨G1.mono fun q hq => .tail _ (.tail _ (.tail _ hq)), D9, i9, t9, t19, n9, .head _, .tail _ (.head _)⟩ (by omega) (by omega) ?_
  rintro v h5 tk5 rfl F5 N5
  rw [v1]
  clear F1 N1
  k_steps
  unfold Stop
  rename Fr _ _ _ _ => F1
  rename News _ _ _ _ => N1
  refine led_item (k := 0) (v := .ref k1) N1 (.tail _ (.tail _ (.tail _ hl))) rfl (by decide) ?_
  k_steps
  unfold Stop
  rename Fr _ _ _ _ => F1
  rename News _ _ _ _ => N1
  refine useG B F1 X N1 T rfl (key_verify k1 y9 one (sigOf (sha (#[97] ++ one)) one) true (.ref 199) z1 hsz _ _ (sha_size _)) ⟨G1.mono fun q hq => .tail _ (.tail _ (.tail _ hq)), D9, i9, t9, t19, n9, .head _, .tail _ (.head _)⟩ (by omega) (by omega) ?_
  rintro v h5 tk5 rfl F5 N5
  rw [v2]
  clear F1 N1
  k_steps
  unfold Stop
  rename Fr _ _ _ _ => F1
  rename News _ _ _ _ => N1
  refine led_item (k := 1) (v := .ref k2) N1 (.tail _ (.tail _ (.tail _ hl))) rfl (by decide) ?_
  k_steps
  unfold Stop
  rename Fr _ _ _ _ => F1
  rename News _ _ _ _ => N1
  refine useG B F1 X N1 T rfl (key_verify k2 y9 two (sigOf (sha (#[97] ++ one)) one) true (.ref 199) z2 hsz _ _ (sha_size _)) ⟨G2.mono fun q hq => .tail _ (.tail _ (.tail _ hq)), D9, i9, t9, t19, n9, .head _, .tail _ (.head _)⟩ (by omega) (by omega) ?_
  rintro v h5 tk5 rfl F5 N5
  rw [v3]
  clear F1 N1
  k_steps
  have e : ((one.toList == two.toList) == (one.toList == two.toList)) = true := beq_self_eq_true _
  rw [e]
  exact cont _ _ _ F5
end
section
/-- all that the plain laws owe -/
structure Plain : Prop where
  told : ToldOk
  dec : DecOk
  turned : TurnedOk
  great : GreatOk
  sec1 : ∀ n, n < 256 → SecOk (sha #[n.toUInt8, 5])
  sec2 : ∀ n, n < 256 → SecOk (sha #[n.toUInt8, 6])
  text : ∀ n fr, n < 256 → (fr = #[128] ∨ fr = #[239]) → TextOk (sha #[n.toUInt8, 5]) fr
  sign : ∀ n k, n < 256 → k < 256 → SignOk (sha #[n.toUInt8, 5]) (sha #[k.toUInt8, 6])
theorem SecOk.made {k : Array UInt8} (h : SecOk k) : madeOf k = some k := madeOf_some h
theorem law_all {w p loose mean mg mb} (PL : Plain) :
  ∀ (dp un : Nat) (gd : Option (List Code)) (cn : Str) (a : Addr) (ccd : Value) (A₀ : Around) (h₀ : Heap) (L : Addr) (s : Shared) (Q : Flow → Shared → Prop) (sl : Addr) (vs : List Value) (ns : List Int),
    Below A₀ h₀ [] h₀ → h₀.IsList sl vs.toArray → IntsAre vs ns → ns.length ≤ 63 → Fr h₀ L s.heap (fun y => List.lookup y [(PySem.Str.ofString "script", Value.ref sl)]) → (Hx.hd.heap_1 w.params).In h₀ → News h₀ L s.heap [] → Top p loose mean mg mb h₀ → dp + 200 < recursionLimit → un + 8 * 200 < cLine →
    (∀ (h' : Heap) (tk' : Nat) (m' : Str → Option Value), Fr h₀ L h' m' → Q (.ret (.bool true)) { s with heap := h', toks := tk' }) →
      wpN (model PySem.Challenge.rw_fc0054_01.row.prog w) (ktrTop dp un gd cn lawDef.2 L a ccd [] []) (execs (lawDef.1.drop 0) (envOf cn lawDef.2 L a ccd)) Q (fun _ _ => False) s := by
  intro dp un gd cn a ccd A₀ h₀ L s Q sl vs ns B hl hi hn F X N T hd hu fin
  refine seg0 _ _ _ _ _ _ A₀ h₀ L s Q sl vs ns B hl hi hn F X N T hd hu ?_
  intro i1 i2 i3 i4 t1 t2 t3 t4 h1 k1 m1 F1 a1 a2 a3 a4 N1
  refine seg1 _ _ _ _ _ _ A₀ h₀ L _ Q i1 i2 i3 i4 t1 t2 t3 t4 m1 B F1 a1 a2 a3 a4 X N1 T hd hu ?_
  intro n1 n2 fr t5 t6 t7 h2 k2 m2 hn1 hn2 hfr F2 b2 b3 b4 b5 b6 b7 N2
  have s1 := PL.sec1 n1 hn1
  have s2 := PL.sec2 n2 hn2
  have tx := PL.text n1 fr hn1 hfr
  have sg := PL.sign n1 n2 hn1 hn2
  revert s1 s2 tx sg b5 b6
  generalize sha #[n1.toUInt8, 5] = one
  generalize sha #[n2.toUInt8, 6] = two
  intro b5 b6 s1 s2 tx sg
  refine seg2 PL.told _ _ _ _ _ _ A₀ h₀ L _ Q i2 i3 t2 t3 t5 t7 one fr m2 B F2 b2 b3 b5 s1.1 b7 hfr X N2 T hd hu ?_
  intro h3 k3 m3 F3 q3 N3
  have c4 := (q3 (PySem.Str.ofString "more") (by decide)).trans b4
  have c5 := (q3 (PySem.Str.ofString "one") (by decide)).trans b5
  have c6 := (q3 (PySem.Str.ofString "other") (by decide)).trans b6
  have c7 := (q3 (PySem.Str.ofString "front") (by decide)).trans b7
  refine seg3 PL.dec _ _ _ _ _ _ A₀ h₀ L _ Q i4 t4 t5 t7 one fr m3 tx B F3 c4 c5 s1.1 c7 X N3 T hd hu ?_
  intro h4 k4 m4 t8 F4 d8 q4 N4
  have d4 := (q4 (PySem.Str.ofString "more") (by decide)).trans c4
  have d5 := (q4 (PySem.Str.ofString "one") (by decide)).trans c5
  have d6 := (q4 (PySem.Str.ofString "other") (by decide)).trans c6
  refine seg4 PL.turned PL.dec _ _ _ _ _ _ A₀ h₀ L _ Q i4 t4 t5 t8 _ m4 tx.1 tx.2.1 tx.2.2.1 B F4 d4 d8 X N4 T hd hu ?_
  intro h5 k5 m5 F5 q5 N5
  have f4 := (q5 (PySem.Str.ofString "more") (by decide)).trans d4
  have f5 := (q5 (PySem.Str.ofString "one") (by decide)).trans d5
  have f6 := (q5 (PySem.Str.ofString "other") (by decide)).trans d6
  refine seg5 PL.great _ _ _ _ _ _ A₀ h₀ L _ Q i4 t4 t5 one m5 s1.1 s1.made B F5 f4 f5 X N5 T hd hu ?_
  intro h6 k6 m6 F6 q6 N6
  have g5 := (q6 (PySem.Str.ofString "one") (by decide)).trans f5
  have g6 := (q6 (PySem.Str.ofString "other") (by decide)).trans f6
  refine seg6 _ _ _ _ _ _ A₀ h₀ L _ Q t5 t6 one two m6 s1 s2 B F6 g5 g6 X N6 T hd hu ?_
  intro h7 k7 m7 l x1 x2 x3 n news F7 e7 q7 N7 hl7 G1 G2 G3
  have j5 := (q7 (PySem.Str.ofString "one") (by decide)).trans g5
  have j6 := (q7 (PySem.Str.ofString "other") (by decide)).trans g6
  refine seg7 _ _ _ _ _ _ A₀ h₀ L _ Q l x1 x2 x3 n one two m7 news s1.1 s2.1 G1 G2 G3 hl7 B F7 e7 X N7 T hd hu ?_
  intro h8 k8 m8 F8 q8 N8
  refine seg8 _ _ _ _ _ _ A₀ h₀ L _ Q l x1 x2 x3 n t5 t6 one two m8 news s1.1 s2.1 sg G1 G2 hl7 B F8 ((q8 _ (by decide)).trans e7) ((q8 _ (by decide)).trans j5) ((q8 _ (by decide)).trans j6) X N8 T hd hu ?_
  intro h9 k9 m9 F9
  exact fin h9 k9 m9 F9
/-- the addresses are those of the head's written-out heap -/
theorem addrs_ok : ∀ P, addrs = (Hx.hd.heap_1 P).map (·.1) := fun P => by kernel_rfl
/-- the walk, given the plain laws and what the top leaves -/
theorem law_of_left (PL : Plain) (l : LeftK Hx.hd.heap_1 addrs_ok) : PySem.Challenge.rw_fc0054_01.Holds := Hx.hd (And.intro l (by
  k_fill
  intro w s₀ s₁ mg mb G Y fa o pm cd doc dV kV ho hd hcd hD hmg hg args vals as hpre hlay hrd hwl hlo
  have KX := kIn_of (as := addrs) (e := addrs_ok) Y
  have X := (Ground.X G).1
  have V := (Ground.X G).2
  refine Ground.open G ?_
  intro T B D TE TW
  try (refine guard_noD D (by decide +kernel) ?_; clear D)
  obtain ⟨_, _, M⟩ := bmod_of_top T
  have TA := at_of_top T
  clear hmg
  wrow_args hpre hlay hrd hwl hlo
  all_goals (refine enterN (raisesW_false ?_) ?_ hg ?_)
  · wrow_none_raised
  · exact postW_of (by wrow_shape) (by wtm_val) (by w_fin)
  have K0 := below_caller (Top.heap T)
  have he := Dflts.none hD rfl
  subst he
  refine call_fullN (by decide) ho hd (Top.nolimit T) hcd (BindsTo.of_eq rfl) (locs rfl) fun h₁ F => ?_
  w_binds F
  have N0 := (News.nil : News _ _ _ []).at F
  clear hd TA
  rename IntsAre _ _ => hi
  rename Heap.IsList _ _ _ => hl
  rename ¬ _ < _ => hn
  refine law_all PL _ _ _ _ _ _ _ _ _ _ _ _ _ _ K0 hl hi (by omega) F KX N0 T (by decide) (by decide) ?_
  intro h' tk' m' F'
  exact ⟨rfl, F'.keep, rfl, hg⟩))
end
section
open PySem.Builtin.Int (intBits)
/-! the octets of a number -/
theorem d256_range : ∀ n : Nat, d256 n = (List.range (d256 n).length).map fun i => n / 256 ^ i % 256 := by
  intro n
  induction n using Nat.strongRecOn with
  | ind n ih =>
    by_cases h0 : n = 0
    · subst h0
      rw [d256_zero]
      rfl
    · have hp : 0 < n := Nat.pos_of_ne_zero h0
      have h1 := ih (n / 256) (by omega)
      rw [d256_pos hp, List.length_cons, List.range_succ_eq_map, List.map_cons, List.map_map]
      congr 1
      · simp
      · conv => lhs; rw [h1]
        refine List.map_congr_left fun i _ => ?_
        show n / 256 / 256 ^ i % 256 = n / 256 ^ (i + 1) % 256
        rw [Nat.div_div_eq_div_mul, Nat.pow_succ, Nat.mul_comm 256]
theorem d256_lower : ∀ n : Nat, 0 < n → 256 ^ ((d256 n).length - 1) ≤ n := by
  intro n
  induction n using Nat.strongRecOn with
  | ind n ih =>
    intro hp
    rw [d256_pos hp, List.length_cons, Nat.add_sub_cancel]
    by_cases h1 : n / 256 = 0
    · rw [h1, d256_zero]
      exact hp
    · have h2 := ih (n / 256) (by omega) (by omega)
      have h3 : 0 < (d256 (n / 256)).length := by
        rw [d256_pos (by omega)]
        exact Nat.zero_lt_succ _
      have h4 : 256 ^ (d256 (n / 256)).length = 256 ^ ((d256 (n / 256)).length - 1) * 256 := by
        rw [← Nat.pow_succ]
        congr 1
        omega
      rw [h4]
      omega
theorem d256_upper : ∀ n : Nat, n < 256 ^ (d256 n).length := by
  intro n
  induction n using Nat.strongRecOn with
  | ind n ih =>
    by_cases h0 : n = 0
    · subst h0
      rw [d256_zero]
      decide
    · have h2 := ih (n / 256) (by omega)
      rw [d256_pos (by omega), List.length_cons, Nat.pow_succ]
      omega
theorem d256_bits {n : Nat} (hp : 0 < n) : (intBits (n : Int) + 7) / 8 = (d256 n).length := by
  have hu : intBits (n : Int) ≤ 8 * (d256 n).length := intBits_le_iff.mpr (by
    rw [Nat.pow_mul]
    exact d256_upper n)
  have hl : ¬ intBits (n : Int) ≤ 8 * ((d256 n).length - 1) := fun h => by
    have := intBits_le_iff.mp h
    rw [Nat.pow_mul] at this
    have h2 := d256_lower n hp
    have h3 : n < 256 ^ ((d256 n).length - 1) := this
    omega
  have h3 : 0 < (d256 n).length := by
    rw [d256_pos hp]
    exact Nat.zero_lt_succ _
  omega
theorem oct_d256 {n : Nat} (hp : 0 < n) : oct (max 1 ((intBits (n : Int) + 7) / 8)) n = ((d256 n).reverse.map Nat.toUInt8).toArray := by
  have h3 : 0 < (d256 n).length := by
    rw [d256_pos hp]
    exact Nat.zero_lt_succ _
  rw [d256_bits hp, show max 1 (d256 n).length = (d256 n).length by omega]
  unfold oct
  conv => rhs; rw [d256_range n]
  rw [List.map_reverse, List.map_map]
  rfl
/-! ones ahead -/
theorem ones58_spec : ∀ l : List Nat, (∀ i, i < ones58 l → l[i]? = some 49) ∧ l[ones58 l]? ≠ some 49
  | [] => ⟨fun i h => absurd h (Nat.not_lt_zero _), by simp⟩
  | c :: r => by
    by_cases hc : c = 49
    · subst hc
      have e : ones58 (49 :: r) = ones58 r + 1 := if_pos rfl
      obtain ⟨h1, h2⟩ := ones58_spec r
      rw [e]
      refine ⟨fun i hi => ?_, by simpa using h2⟩
      cases i with
      | zero => rfl
      | succ i => simpa using h1 i (by omega)
    · have e : ones58 (c :: r) = 0 := if_neg hc
      rw [e]
      exact ⟨fun i h => absurd h (Nat.not_lt_zero _), by simpa using hc⟩
theorem ones58_le : ∀ l : List Nat, ones58 l ≤ l.length
  | [] => Nat.le_refl _
  | c :: r => by
    by_cases hc : c = 49
    · have e : ones58 (c :: r) = ones58 r + 1 := if_pos hc
      rw [e, List.length_cons]
      exact Nat.succ_le_succ (ones58_le r)
    · have e : ones58 (c :: r) = 0 := if_neg hc
      rw [e]
      exact Nat.zero_le _
theorem has49 : has58 49 = true := by decide +kernel
theorem pos49 : pos58 49 = 0 := by decide +kernel
theorem pos58_zero {c : Nat} (h : has58 c = true) (h0 : pos58 c = 0) : c = 49 := by
  have hm : c ∈ B58.cps.toList := List.contains_iff_mem.mp h
  have h1 := List.getElem_idxOf (List.idxOf_lt_length_iff.mpr hm)
  have h2 : B58.cps.toList.idxOf c = 0 := h0
  have h3 : B58.cps.toList[0]? = some 49 := by decide +kernel
  have h4 : B58.cps.toList[B58.cps.toList.idxOf c]? = some c := by
    rw [List.getElem?_eq_getElem (List.idxOf_lt_length_iff.mpr hm), h1]
  rw [h2, h3] at h4
  exact (Option.some.inj h4).symm
theorem val58_ones : ∀ (l : List Nat) (n : Nat), val58 l 0 = some n → val58 (l.drop (ones58 l)) 0 = some n
  | [], n, h => h
  | c :: r, n, h => by
    by_cases hc : c = 49
    · subst hc
      have e : ones58 (49 :: r) = ones58 r + 1 := if_pos rfl
      rw [e, List.drop_succ_cons]
      refine val58_ones r n ?_
      unfold val58 at h
      rw [if_pos has49, pos49] at h
      exact h
    · have e : ones58 (c :: r) = 0 := if_neg hc
      rw [e]
      exact h
theorem val58_pos : ∀ (l : List Nat) (k n : Nat), val58 l k = some n → 0 < k → 0 < n
  | [], k, n, h, hk => by
    cases h
    exact hk
  | c :: r, k, n, h, hk => by
    unfold val58 at h
    by_cases hd : has58 c
    · rw [if_pos hd] at h
      exact val58_pos r _ n h (by omega)
    · rw [if_neg hd] at h
      cases h
theorem val58_nought : ∀ (l : List Nat), val58 l 0 = some 0 → ones58 l = l.length
  | [], _ => rfl
  | c :: r, h => by
    unfold val58 at h
    by_cases hd : has58 c
    · rw [if_pos hd] at h
      have hp : pos58 c = 0 := by
        rcases Nat.eq_zero_or_pos (0 * 58 + pos58 c) with e | e
        · omega
        · exact absurd (val58_pos r _ 0 h e) (Nat.lt_irrefl _)
      have hc := pos58_zero hd hp
      subst hc
      rw [pos49] at h
      have e : ones58 (49 :: r) = ones58 r + 1 := if_pos rfl
      rw [e, val58_nought r h, List.length_cons]
    · rw [if_neg hd] at h
      cases h
theorem ones58_drop {l : List Nat} (h : ones58 l < l.length) : ones58 l.dropLast = ones58 l := by
  obtain ⟨h1, h2⟩ := ones58_spec l
  refine ones58_count _ _ (fun i hi => ?_) ?_
  · rw [List.getElem?_dropLast, if_pos (by omega)]
    exact h1 i hi
  · rw [List.getElem?_dropLast]
    split
    · exact h2
    · nofun
theorem ones58_dropAll {l : List Nat} (h : ones58 l = l.length) : ones58 l.dropLast = l.length - 1 := by
  obtain ⟨h1, h2⟩ := ones58_spec l
  refine ones58_count _ _ (fun i hi => ?_) ?_
  · rw [List.getElem?_dropLast, if_pos hi]
    exact h1 i (by omega)
  · rw [List.getElem?_dropLast, if_neg (Nat.lt_irrefl _)]
    nofun
/-! both decodings are one -/
theorem map_rep (k : Nat) : (List.replicate k (0 : Int)).map (fun z : Int => z.toNat.toUInt8) = List.replicate k 0 := by
  rw [List.map_replicate]
  rfl
theorem lawOct_eq {x : PySem.Str} {n : Nat} (h : val58 x.cps.toList 0 = some n) : lawOct x = some ((List.replicate (ones58 x.cps.toList) 0).toArray ++ ((d256 n).reverse.map Nat.toUInt8).toArray) := by
  unfold lawOct
  rw [h]
  simp only [List.map_append, map_rep, List.map_map]
  rw [List.append_toArray]
  congr 1
theorem dec_law (x : PySem.Str) : dec x = lawOct x := by
  have hlen : x.length = x.cps.toList.length := by simp [PySem.Str.length]
  by_cases h0 : x.length = 0
  · have e : x.cps.toList = [] := List.eq_nil_of_length_eq_zero (hlen ▸ h0)
    have hv : val58 x.cps.toList 0 = some 0 := by rw [e]; rfl
    rw [lawOct_eq hv, dec, if_pos h0, e, d256_zero]
    rfl
  · cases hv : val58 x.cps.toList 0 with
    | none =>
      unfold dec lawOct
      rw [if_neg h0, hv]
    | some n =>
      rw [lawOct_eq hv, dec_some h0 hv]
      unfold decV
      rcases Nat.eq_zero_or_pos n with rfl | hp
      · have ho := val58_nought _ hv
        rw [ones58_dropAll ho, ho, d256_zero]
        have e1 : oct (max 1 ((intBits ((0 : Nat) : Int) + 7) / 8)) 0 = #[0] := by decide +kernel
        rw [e1]
        congr 1
        have e2 : x.cps.toList.length = (x.cps.toList.length - 1) + 1 := by omega
        apply Array.toList_inj.mp
        simp only [Array.toList_append, List.reverse_nil, List.map_nil, List.append_nil]
        show List.replicate _ 0 ++ [0] = _
        conv => rhs; rw [e2]
        rw [List.replicate_succ']
      · have ho : ones58 x.cps.toList < x.cps.toList.length := by
          rcases Nat.lt_or_ge (ones58 x.cps.toList) x.cps.toList.length with h | h
          · exact h
          · have e3 := val58_ones _ _ hv
            rw [List.drop_of_length_le h] at e3
            cases e3
            exact absurd hp (Nat.lt_irrefl _)
        rw [ones58_drop ho, oct_d256 hp]
theorem lawOct_size {x : PySem.Str} {b : Array UInt8} (h : lawOct x = some b) : b.size ≤ x.length := by
  have hlen : x.length = x.cps.toList.length := by simp [PySem.Str.length]
  cases hv : val58 x.cps.toList 0 with
  | none =>
    unfold lawOct at h
    rw [hv] at h
    cases h
  | some n =>
    rw [lawOct_eq hv] at h
    cases h
    simp only [Array.size_append, List.size_toArray, List.length_replicate, List.length_map, List.length_reverse]
    have h1 := val58_lt _ _ _ (val58_ones _ _ hv)
    have h2 := ones58_le x.cps.toList
    rw [List.length_drop] at h1
    have h3 : (d256 n).length ≤ x.cps.toList.length - ones58 x.cps.toList := by
      refine d256_len _ _ ?_
      generalize x.cps.toList.length - ones58 x.cps.toList = q at h1
      rcases Nat.eq_zero_or_pos q with rfl | hq
      · simp at h1
        omega
      · have h4 : 58 ^ q * 2 ≤ 256 ^ q := by
          obtain ⟨r, rfl⟩ : ∃ r, q = r + 1 := ⟨q - 1, by omega⟩
          rw [Nat.pow_succ, Nat.pow_succ, Nat.mul_assoc]
          exact Nat.mul_le_mul (Nat.pow_le_pow_left (by decide) r) (by decide)
        omega
    omega
theorem plain_dec : DecOk := fun x hx => ⟨fun b h => Nat.le_trans (lawOct_size (dec_law x ▸ h)) (by omega), fun b h => Nat.le_trans (lawOct_size h) (by omega)⟩
theorem told_due (x : PySem.Str) : toldOf x = dueOf x := by
  unfold toldOf decChk dueOf
  rw [dec_law]
  cases lawOct x with
  | none => rfl
  | some b =>
    dsimp only
    by_cases h : last4 b = first4 (dsha (but4 b))
    · rw [if_pos h]
      dsimp only
      rw [if_neg]
      rintro (h2 | h2)
      · have := congrArg Array.size h
        simp only [last4_size, first4_size, dsha_size] at this
        omega
      · exact h2 h.symm
    · rw [if_neg h, if_pos (.inr fun e => h e.symm)]
theorem plain_turned : TurnedOk := told_due
end
section
/-! encode, then decode -/
def code58 (r : Nat) : Nat := B58.cps.getD r 0
theorem code_ok : ∀ r : Nat, r < 58 → has58 (code58 r) = true ∧ pos58 (code58 r) = r := by decide +kernel
theorem code58_small (r : Nat) : code58 r < 128 := by
  unfold code58
  rw [Array.getD_eq_getD_getElem?]
  cases h : B58.cps[r]? with
  | none => decide
  | some c =>
    have hm : c ∈ B58.cps.toList := by
      rw [← Array.getElem?_toList] at h
      exact List.mem_of_getElem? h
    have : ∀ c ∈ B58.cps.toList, c < 128 := by decide +kernel
    exact this c hm
theorem digs_val : ∀ m : Nat, val58 ((digs m).reverse.map code58) 0 = some m := by
  intro m
  induction m using Nat.strongRecOn with
  | ind m ih =>
    by_cases h0 : m = 0
    · subst h0
      rw [digs_zero]
      rfl
    · rw [digs_pos (by omega), List.reverse_cons, List.map_append]
      obtain ⟨h1, h2⟩ := code_ok (m % 58) (Nat.mod_lt _ (by decide))
      show val58 (_ ++ [code58 (m % 58)]) 0 = _
      rw [val58_snoc _ _ _ _ (ih (m / 58) (by omega)), if_pos h1, h2]
      congr 1
      omega
theorem digs_top : ∀ m : Nat, 0 < m → ∃ d r, (digs m).reverse = d :: r ∧ 0 < d ∧ d < 58 := by
  intro m
  induction m using Nat.strongRecOn with
  | ind m ih =>
    intro hp
    rw [digs_pos hp, List.reverse_cons]
    by_cases h1 : m / 58 = 0
    · rw [h1, digs_zero]
      exact ⟨m % 58, [], rfl, by omega, Nat.mod_lt _ (by decide)⟩
    · obtain ⟨d, r, h2, h3⟩ := ih (m / 58) (by omega) (by omega)
      rw [h2]
      exact ⟨d, r ++ [m % 58], rfl, h3⟩
/-- the number of a list of octets -/
def numL (l : List UInt8) (a : Nat) : Nat := l.foldl (fun acc c => acc * 256 + c.toNat) a
theorem num_numL (b : Array UInt8) : num b = numL b.toList 0 := rfl
theorem numL_ge : ∀ (l : List UInt8) (a : Nat), a ≤ numL l a
  | [], a => Nat.le_refl _
  | c :: r, a => by
    have := numL_ge r (a * 256 + c.toNat)
    show a ≤ numL r (a * 256 + c.toNat)
    omega
theorem numL_snoc (l : List UInt8) (a : Nat) (c : UInt8) : numL (l ++ [c]) a = numL l a * 256 + c.toNat := by
  unfold numL
  rw [List.foldl_append]
  rfl
theorem toNat_pos {c : UInt8} (h : c ≠ 0) : 0 < c.toNat := by
  rcases Nat.eq_zero_or_pos c.toNat with e | e
  · exact absurd (UInt8.toNat_inj.mp e) h
  · exact e
theorem numL_pos {c : UInt8} {r : List UInt8} (h : c ≠ 0) : 0 < numL (c :: r) 0 := by
  have h1 := numL_ge r (0 * 256 + c.toNat)
  have h2 := toNat_pos h
  show 0 < numL r (0 * 256 + c.toNat)
  omega
theorem d256_num : ∀ (n : Nat) (l : List UInt8), l.length = n → (∀ c r, l = c :: r → c ≠ 0) → (d256 (numL l 0)).reverse.map Nat.toUInt8 = l
  | 0, l, hn, _ => by
    have e := List.eq_nil_of_length_eq_zero hn
    subst e
    show (d256 0).reverse.map Nat.toUInt8 = []
    rw [d256_zero]
    rfl
  | n + 1, l, hn, hc => by
    obtain ⟨i, c, rfl⟩ : ∃ i c, l = i ++ [c] := ⟨l.dropLast, l.getLast (by intro e; rw [e] at hn; cases hn), (List.dropLast_concat_getLast _).symm⟩
    have hi : i.length = n := by simpa using hn
    have hpos : 0 < numL (i ++ [c]) 0 := by
      cases i with
      | nil => exact numL_pos (hc c [] rfl)
      | cons d r => exact numL_pos (hc d (r ++ [c]) rfl)
    have ih := d256_num n i hi (fun d r e => hc d (r ++ [c]) (by rw [e]; rfl))
    rw [d256_pos hpos, numL_snoc]
    have hlt := c.toNat_lt
    have e1 : (numL i 0 * 256 + c.toNat) % 256 = c.toNat := by omega
    have e2 : (numL i 0 * 256 + c.toNat) / 256 = numL i 0 := by omega
    rw [e1, e2, List.reverse_cons, List.map_append, ih]
    congr 1
    show [c.toNat.toUInt8] = [c]
    rw [show c.toNat.toUInt8 = c from UInt8.ofNat_toNat]
theorem fore_lead {b : Array UInt8} (h : Fore b) : lead b = 0 := by
  obtain ⟨c, r, h1, h2⟩ := h
  unfold lead
  rw [h1, List.takeWhile_cons, if_neg (by simpa using h2)]
  rfl
theorem fore_num {b : Array UInt8} (h : Fore b) : 0 < num b := by
  obtain ⟨c, r, h1, h2⟩ := h
  rw [num_numL, h1]
  exact numL_pos h2
theorem enc_cps {b : Array UInt8} (h : Fore b) : (enc b).cps.toList = (digs (num b)).reverse.map code58 := by
  unfold enc
  rw [fore_lead h, PySem.Str.cps_append]
  simp [ones, txt58]
  intro a _
  unfold code58
  rw [Array.getD_eq_getD_getElem?]
theorem law_enc {b : Array UInt8} (h : Fore b) : lawOct (enc b) = some b := by
  have hv : val58 (enc b).cps.toList 0 = some (num b) := by
    rw [enc_cps h]
    exact digs_val _
  rw [lawOct_eq hv]
  have ho : ones58 (enc b).cps.toList = 0 := by
    obtain ⟨d, r, h1, h2, h3⟩ := digs_top (num b) (fore_num h)
    rw [enc_cps h, h1, List.map_cons]
    refine if_neg fun e => ?_
    have h4 := (code_ok d h3).2
    rw [e, pos49] at h4
    omega
  rw [ho]
  congr 1
  apply Array.toList_inj.mp
  simp only [Array.toList_append, List.replicate_zero, List.nil_append]
  obtain ⟨c, r, h1, h2⟩ := h
  rw [num_numL]
  exact d256_num _ _ rfl (fun d q e => by
    rw [h1] at e
    cases e
    exact h2)
theorem enc_small {b : Array UInt8} (h : Fore b) : ∀ c ∈ (enc b).cps.toList, c < 128 := by
  intro c hc
  rw [enc_cps h] at hc
  obtain ⟨r, _, rfl⟩ := List.mem_map.mp hc
  exact code58_small r
theorem enc_length {b : Array UInt8} (h : Fore b) : (enc b).length = (digs (num b)).length := by
  unfold enc
  rw [PySem.Str.length_append, fore_lead h, ones_len, txt58_len, List.length_reverse]
  omega
/-! with the check -/
theorem Fore.app {b : Array UInt8} (h : Fore b) (c : Array UInt8) : Fore (b ++ c) := by
  obtain ⟨d, r, h1, h2⟩ := h
  exact ⟨d, r ++ c.toList, by rw [Array.toList_append, h1]; rfl, h2⟩
theorem but4_app {b c : Array UInt8} (hc : c.size = 4) : but4 (b ++ c) = b := by
  unfold but4
  apply Array.toList_inj.mp
  show ((b ++ c).toList.take ((b ++ c).size - 4)) = b.toList
  rw [Array.toList_append, Array.size_append, hc, Nat.add_sub_cancel, List.take_left' (by simp)]
theorem last4_app {b c : Array UInt8} (hc : c.size = 4) : last4 (b ++ c) = c := by
  unfold last4
  apply Array.toList_inj.mp
  show ((b ++ c).toList.drop ((b ++ c).size - 4)) = c.toList
  rw [Array.toList_append, Array.size_append, hc, Nat.add_sub_cancel, List.drop_left' (by simp)]
theorem check_size (b : Array UInt8) : (first4 (dsha b)).size = 4 := by
  rw [first4_size, dsha_size]
  rfl
theorem decChk_enc {b : Array UInt8} (h : Fore b) : decChk (encCheck b) = some b := by
  unfold decChk encCheck
  rw [dec_law, law_enc (h.app _)]
  dsimp only
  rw [but4_app (check_size b), last4_app (check_size b), if_pos rfl]
theorem told_enc {b : Array UInt8} (h : Fore b) : toldOf (encCheck b) = keyOf b := by
  unfold toldOf
  rw [decChk_enc h]
theorem plain_told : ToldOk := fun b hb h => ⟨told_enc h, enc_small (h.app _), fun d hd => by
  unfold encCheck at hd
  rw [dec_law, law_enc (h.app _)] at hd
  cases hd
  rw [Array.size_append, check_size]
  omega⟩
/-! octets of a fixed number -/
theorem numL_oct : ∀ (k x : Nat), numL ((List.range k).map fun i => (x / 256 ^ i % 256).toUInt8).reverse 0 = x % 256 ^ k
  | 0, x => by
    show 0 = x % 1
    omega
  | k + 1, x => by
    rw [List.range_succ_eq_map, List.map_cons, List.map_map, List.reverse_cons, numL_snoc]
    have e : (List.map ((fun i => (x / 256 ^ i % 256).toUInt8) ∘ Nat.succ) (List.range k)) = (List.range k).map fun i => (x / 256 / 256 ^ i % 256).toUInt8 := by
      refine List.map_congr_left fun i _ => ?_
      show (x / 256 ^ (i + 1) % 256).toUInt8 = _
      rw [Nat.div_div_eq_div_mul, Nat.pow_succ, Nat.mul_comm 256]
    rw [e, numL_oct k (x / 256)]
    have e2 : (x / 256 ^ 0 % 256).toUInt8.toNat = x % 256 := by
      rw [Nat.pow_zero, Nat.div_one]
      exact UInt8.toNat_ofNat_of_lt' (Nat.mod_lt _ (by decide))
    rw [e2, Nat.pow_succ, Nat.mul_comm (256 ^ k) 256, Nat.mod_mul]
    omega
theorem num_oct {k x : Nat} (h : x < 256 ^ k) : num (oct k x) = x := by
  have := numL_oct k x
  rw [Nat.mod_eq_of_lt h] at this
  exact this
theorem plain_great : GreatOk := fun X h1 h2 => by
  unfold madeOf
  refine if_neg ?_
  rintro ⟨_, _, h3⟩
  rw [num_oct h2] at h3
  omega
/-! the right text -/
theorem key_right {one fr : Array UInt8} (hs : SecOk one) (hf : fr = #[128] ∨ fr = #[239]) : keyOf (fr ++ one ++ #[1]) = some (one, true) := by
  have hfs : fr.size = 1 := by rcases hf with rfl | rfl <;> rfl
  have hsz : (fr ++ one ++ #[1]).size = 34 := by
    rw [Array.size_append, Array.size_append, hfs, hs.1]
    rfl
  obtain ⟨ol, rfl⟩ : ∃ l : List UInt8, one = l.toArray := ⟨one.toList, Array.toArray_toList.symm⟩
  have hol : ol.length = 32 := by simpa using hs.1
  have hm : mid32 (fr ++ ol.toArray ++ #[1]) = ol.toArray := by
    unfold mid32
    congr 1
    have e : (fr ++ ol.toArray ++ #[1]).toList = fr.toList ++ (ol ++ [1]) := by simp
    rw [e, List.drop_left' (by simpa using hfs), List.take_left' hol]
  have ha : at8 (fr ++ ol.toArray ++ #[1]) 33 = 1 := by
    unfold at8
    have e : (fr ++ ol.toArray ++ #[1]).toList = (fr.toList ++ ol) ++ [1] := by simp
    rw [e, List.getD_eq_getElem?_getD, List.getElem?_append_right (by simp [hfs, hol])]
    simp [hfs, hol]
  refine (keyOf_some (c := true) ⟨.inr ⟨hsz, ha⟩, ?_, ?_⟩ (by rw [hsz]; rfl)).trans ?_
  · rw [hm]
    exact hs.2.1
  · rw [hm]
    exact hs.2.2
  · rw [hm]
theorem plain_text {one fr : Array UInt8} (hs : SecOk one) (hf : fr = #[128] ∨ fr = #[239]) : TextOk one fr := by
  have hfo : Fore (fr ++ one ++ #[1]) := (fore_app hf one).app _
  have hfs : fr.size = 1 := by rcases hf with rfl | rfl <;> rfl
  have hl : (encCheck (fr ++ one ++ #[1])).length = (digs (num (fr ++ one ++ #[1] ++ first4 (dsha (fr ++ one ++ #[1]))))).length := enc_length (hfo.app _)
  have hk := key_right hs hf
  refine ⟨?_, ?_, enc_small (hfo.app _), ⟨netOf (fr ++ one ++ #[1]), ?_, ?_⟩, ?_⟩
  · rw [hl]
    obtain ⟨d, r, h1, _⟩ := digs_top _ (fore_num (hfo.app (first4 (dsha (fr ++ one ++ #[1])))))
    have := congrArg List.length h1
    rw [List.length_reverse, List.length_cons] at this
    omega
  · rw [hl]
    have h1 := digs_len _ _ (num_lt (fr ++ one ++ #[1] ++ first4 (dsha (fr ++ one ++ #[1]))))
    have h2 : (fr ++ one ++ #[1] ++ first4 (dsha (fr ++ one ++ #[1]))).size = 38 := by
      rw [Array.size_append, check_size, Array.size_append, Array.size_append, hfs, hs.1]
      rfl
    omega
  · unfold wifOf
    rw [decChk_enc hfo]
    dsimp only
    rw [hk]
  · have hfi : first1 (fr ++ one ++ #[1]) = fr := by
      unfold first1
      apply Array.toList_inj.mp
      show (fr ++ one ++ #[1]).toList.take 1 = fr.toList
      rw [Array.toList_append, Array.toList_append, List.append_assoc, List.take_left' (by simpa using hfs)]
    unfold netOf
    rw [hfi]
    rcases hf with rfl | rfl
    · exact .inl ⟨if_pos rfl, rfl⟩
    · exact .inr ⟨by rw [if_neg (by decide), if_pos rfl], rfl⟩
  · rw [← told_due, told_enc hfo, hk]
end
section
/-! the stand-in hash's numbers -/
theorem numL_app (l r : List UInt8) (a : Nat) : numL (l ++ r) a = numL l a * 256 ^ r.length + numL r 0 := by
  induction r generalizing l a with
  | nil =>
    rw [List.append_nil, List.length_nil, Nat.pow_zero, Nat.mul_one]
    rfl
  | cons c r ih =>
    have e : l ++ c :: r = (l ++ [c]) ++ r := by simp
    have e2 : numL (c :: r) 0 = numL ([] ++ [c] ++ r) 0 := rfl
    rw [e, ih, numL_snoc, e2, ih, numL_snoc]
    show (numL l a * 256 + c.toNat) * 256 ^ r.length + numL r 0 = numL l a * 256 ^ (r.length + 1) + ((0 * 256 + c.toNat) * 256 ^ r.length + numL r 0)
    rw [Nat.pow_succ, Nat.add_mul, Nat.zero_mul, Nat.zero_add, Nat.mul_assoc, Nat.mul_comm 256, Nat.add_assoc]
theorem num_app (a b : Array UInt8) : num (a ++ b) = num a * 256 ^ b.size + num b := by
  rw [num_numL, num_numL, num_numL, Array.toList_append, numL_app, Array.length_toList]
theorem PR_pos : 0 < PR := by decide
theorem PR_wide : PR < 256 ^ 32 := by decide
theorem num_sha (b : Array UInt8) : num (sha b) = num (#[1] ++ b) * num (#[1] ++ b) * CC % PR := by
  unfold sha
  exact num_oct (Nat.lt_trans (Nat.mod_lt _ PR_pos) PR_wide)
theorem num_two (n : Nat) (hn : n < 256) (c : UInt8) : num (#[1] ++ #[n.toUInt8, c]) = 65536 + n * 256 + c.toNat := by
  show ((0 * 256 + (1 : UInt8).toNat) * 256 + n.toUInt8.toNat) * 256 + c.toNat = _
  have e : n.toUInt8.toNat = n := UInt8.toNat_ofNat_of_lt' hn
  rw [e]
  show ((0 * 256 + 1) * 256 + n) * 256 + c.toNat = _
  omega
def nSec (c n : Nat) : Nat := (65536 + n * 256 + c) * (65536 + n * 256 + c) * CC % PR
def nMsg (t x : Nat) : Nat := ((256 + t) * 256 ^ 32 + x) * ((256 + t) * 256 ^ 32 + x) * CC % PR
theorem num_sec {n : Nat} (hn : n < 256) (c : UInt8) : num (sha #[n.toUInt8, c]) = nSec c.toNat n := by
  rw [num_sha, num_two n hn]
  rfl
theorem num_msg (t : UInt8) {k : Array UInt8} (hk : k.size = 32) : num (sha (#[t] ++ k)) = nMsg t.toNat (num k) := by
  have e : num (#[1] ++ (#[t] ++ k)) = (256 + t.toNat) * 256 ^ 32 + num k := by
    rw [← Array.append_assoc, num_app, hk]
    congr 2
  rw [num_sha, e]
  rfl
theorem heads : ∀ n : Nat, n < 256 → 0 < nSec 5 n ∧ 0 < nSec 6 n ∧ Nat.gcd (nSec 5 n) PR = 1 ∧ Nat.gcd (nMsg 97 (nSec 5 n)) PR = 1 ∧ nMsg 97 (nSec 5 n) ≠ nMsg 98 (nSec 5 n) := by decide +kernel
theorem plain_sec1 (n : Nat) (hn : n < 256) : SecOk (sha #[n.toUInt8, 5]) := by
  have h := num_sec hn 5
  refine ⟨sha_size _, ?_, ?_⟩
  · rw [h]
    exact (heads n hn).1
  · rw [h]
    exact Nat.mod_lt _ PR_pos
theorem plain_sec2 (n : Nat) (hn : n < 256) : SecOk (sha #[n.toUInt8, 6]) := by
  have h := num_sec hn 6
  refine ⟨sha_size _, ?_, ?_⟩
  · rw [h]
    exact (heads n hn).2.1
  · rw [h]
    exact Nat.mod_lt _ PR_pos
/-! the signature -/
def BB : Nat := 47962653777612059811531418077271348761744880276845910084186123193600379925034
theorem BB_prime : Nat.gcd BB PR = 1 := by decide +kernel
theorem fmod_num (x : Nat) : num (oct 32 (((x : Int)).fmod (PR : Int)).toNat) = x % PR := by
  rw [Int.fmod_eq_emod_of_nonneg _ (by omega), ← Int.natCast_emod, Int.toNat_natCast]
  exact num_oct (Nat.lt_trans (Nat.mod_lt _ PR_pos) PR_wide)
theorem num_pt (k : Array UInt8) : num (ptOf k) = num k * BB % PR := by
  rw [← fmod_num, Int.natCast_mul]
  rfl
theorem num_sig (b k : Array UInt8) : num (sigOf b k) = num b * num k % PR := by
  rw [← fmod_num, Int.natCast_mul]
  rfl
theorem ver_iff (b k b' k' : Array UInt8) : verOf (sigOf b k) b' k' = true ↔ (PR : Int) ∣ (BB : Int) * ((num b : Int) * num k - (num b' : Int) * num k') := by
  have e : verOf (sigOf b k) b' k' = true ↔ (PR : Int) ∣ ((num b * num k % PR : Nat) : Int) * (BB : Int) - (num b' : Int) * ((num k' * BB % PR : Nat) : Int) := by
    rw [← num_sig, ← num_pt, Int.dvd_iff_emod_eq_zero]
    show ((_ : Int).fmod (PR : Int) == 0) = true ↔ _
    rw [beq_iff_eq, Int.fmod_eq_emod_of_nonneg _ (by omega)]
    rfl
  rw [e]
  have h1 : ((num b * num k % PR : Nat) : Int) = (num b : Int) * num k - (PR : Int) * ((num b * num k / PR : Nat) : Int) := by
    have := Nat.div_add_mod (num b * num k) PR
    have h2 : ((PR * (num b * num k / PR) + num b * num k % PR : Nat) : Int) = ((num b * num k : Nat) : Int) := by rw [this]
    rw [Int.natCast_add, Int.natCast_mul, Int.natCast_mul] at h2
    omega
  have h3 : ((num k' * BB % PR : Nat) : Int) = (num k' : Int) * BB - (PR : Int) * ((num k' * BB / PR : Nat) : Int) := by
    have := Nat.div_add_mod (num k' * BB) PR
    have h2 : ((PR * (num k' * BB / PR) + num k' * BB % PR : Nat) : Int) = ((num k' * BB : Nat) : Int) := by rw [this]
    rw [Int.natCast_add, Int.natCast_mul, Int.natCast_mul] at h2
    omega
  rw [h1, h3]
  generalize ((num b * num k / PR : Nat) : Int) = u
  generalize ((num k' * BB / PR : Nat) : Int) = v
  generalize (num b : Int) = a1
  generalize (num k : Int) = a2
  generalize (num b' : Int) = a3
  generalize (num k' : Int) = a4
  generalize (BB : Int) = B
  generalize (PR : Int) = P
  have e4 : (a1 * a2 - P * u) * B - a3 * (a4 * B - P * v) = B * (a1 * a2 - a3 * a4) + P * (a3 * v - u * B) := by
    simp only [Int.sub_mul, Int.mul_sub, Int.mul_assoc, Int.mul_comm, Int.mul_left_comm]
    omega
  rw [e4]
  exact ⟨fun h => (Int.dvd_add_left (Int.dvd_mul_right _ _)).mp h, fun h => (Int.dvd_add_left (Int.dvd_mul_right _ _)).mpr h⟩
/-- a factor prime to the group's size falls away -/
theorem far {c : Nat} (hc : Nat.gcd c PR = 1) {x y : Nat} (hx : x < PR) (hy : y < PR) (h : (PR : Int) ∣ (BB : Int) * ((c : Int) * ((x : Int) - y))) : x = y := by
  rw [Int.ofNat_dvd_left, Int.natAbs_mul, Int.natAbs_mul, Int.natAbs_natCast, Int.natAbs_natCast] at h
  have h1 : PR ∣ c * ((x : Int) - y).natAbs := Nat.Coprime.dvd_of_dvd_mul_left (Nat.coprime_comm.mp BB_prime) h
  have h2 : PR ∣ ((x : Int) - y).natAbs := Nat.Coprime.dvd_of_dvd_mul_left (Nat.coprime_comm.mp hc) h1
  have h3 : ((x : Int) - y).natAbs < PR := by omega
  have h4 := Nat.eq_zero_of_dvd_of_lt h2 h3
  omega
theorem sec_lt {k : Array UInt8} (h : SecOk k) : num k < PR := h.2.2
theorem sha_inj {b c : Array UInt8} (h : num (sha b) = num (sha c)) : sha b = sha c := by
  rw [num_sha, num_sha] at h
  unfold sha
  rw [h]
theorem plain_sign (n k : Nat) (hn : n < 256) (hk : k < 256) : SignOk (sha #[n.toUInt8, 5]) (sha #[k.toUInt8, 6]) := by
  have s1 := plain_sec1 n hn
  have s2 := plain_sec2 k hk
  have e5 : num (sha #[n.toUInt8, 5]) = nSec 5 n := num_sec hn 5
  obtain ⟨_, _, g1, g2, g3⟩ := heads n hn
  have ea : num (sha (#[97] ++ sha #[n.toUInt8, 5])) = nMsg 97 (nSec 5 n) := by rw [num_msg 97 (sha_size _), e5]; rfl
  have eb : num (sha (#[98] ++ sha #[n.toUInt8, 5])) = nMsg 98 (nSec 5 n) := by rw [num_msg 98 (sha_size _), e5]; rfl
  have la : num (sha (#[97] ++ sha #[n.toUInt8, 5])) < PR := by rw [num_sha]; exact Nat.mod_lt _ PR_pos
  have lb : num (sha (#[98] ++ sha #[n.toUInt8, 5])) < PR := by rw [num_sha]; exact Nat.mod_lt _ PR_pos
  have v1 : verOf (sigOf (sha (#[97] ++ sha #[n.toUInt8, 5])) (sha #[n.toUInt8, 5])) (sha (#[97] ++ sha #[n.toUInt8, 5])) (sha #[n.toUInt8, 5]) = true := by
    rw [ver_iff, Int.sub_self, Int.mul_zero]
    exact Int.dvd_zero _
  refine ⟨v1, ?_, ?_⟩
  · rw [Bool.eq_false_iff]
    intro h
    rw [Ne, ver_iff] at *
    apply g3
    rw [← ea, ← eb]
    refine far (c := num (sha #[n.toUInt8, 5])) (by rw [e5]; exact g1) la lb ?_
    rw [Int.mul_sub, Int.mul_comm _ ((num (sha (#[97] ++ sha #[n.toUInt8, 5])) : Nat) : Int), Int.mul_comm _ ((num (sha (#[98] ++ sha #[n.toUInt8, 5])) : Nat) : Int)]
    exact h
  · rw [Bool.eq_iff_iff, ver_iff, beq_iff_eq]
    constructor
    · intro h
      rw [← Int.mul_sub] at h
      exact congrArg Array.toList (sha_inj (far (by rw [ea]; exact g2) (sec_lt s1) (sec_lt s2) h))
    · intro h
      have h' : sha #[n.toUInt8, 5] = sha #[k.toUInt8, 6] := Array.toList_inj.mp h
      rw [← h', Int.sub_self, Int.mul_zero]
      exact Int.dvd_zero _
theorem plain : Plain := ⟨plain_told, plain_dec, plain_turned, plain_great, plain_sec1, plain_sec2, fun n fr hn hf => plain_text (plain_sec1 n hn) hf, plain_sign⟩
/-- the call's row, given what the top leaves -/
theorem law_row (l : LeftK Hx.hd.heap_1 addrs_ok) : PySem.Challenge.rw_fc0054_01.row.Holds := (law_of_left plain l).2
end
end
end Mine
section
open PySem PySem.W PyProof.Rows
namespace Hy
/-- the head's rule, told so that it hands on what the top leaves -/
theorem PySem.W.holds_open {r : OpenRow} {q : Program} {loose : List Str} {Xt : Shared → Bool} {XP : (Str → Option Value) → Heap → Prop} {α : Type} {Yf : Shared → α} {Ya : World → α} {YP : World → Heap → Prop} {N : Nat}
    (left : LeftO r.prog q loose Xt Yf Ya N) (_ : ∀ w s, Yf s = Ya w → YP w s.heap) (_ : ∀ w h h', YP w h → (∀ b o, h.get? b = some o → h'.get? b = some o) → YP w h')
    (_ : ∀ s, Xt s = true → XP (s.heap.nsMap mainGlobals) s.heap) (_ : ∀ mg h h', XP mg h → (∀ b o, h.get? b = some o → h'.get? b = some o) → XP mg h')
    (_ : 1 = 1) (_ : 1 = 1) (_ : 1 = 1) (_ : ∀ s, Xt s = true → RecFacts r.records s.heap) (_ : 1 = 1)
    (_ : True) (_ : True) (_ : 1 = 1 ∧ 1 = 1 ∧ 1 = 1 ∧ 1 = 1 ∧ 1 = 1 ∧ True) (_ : True) (call : LeftO r.prog q loose Xt Yf Ya N → r.Holds) : r.Holds := call left
/-! The head's looks make a twin of each named piece, under a name that they draw from the piece's name. A twin of a whole
state is as long as the square of the state. So these names are taken beforehand: a look that finds its twin's name taken does without. -/
namespace left
theorem tw5396945322885283884 : True := trivial
theorem tw497445910692501557 : True := trivial
theorem tw904952446623382366 : True := trivial
theorem tw12666211445516906533 : True := trivial
theorem tw15499213552288339801 : True := trivial
theorem tw16723692759551134606 : True := trivial
theorem tw16350157375541684069 : True := trivial
theorem tw16047226534581573565 : True := trivial
theorem tw15605498738955430394 : True := trivial
theorem tw128405955466235 : True := trivial
theorem tw8264499109793299781 : True := trivial
theorem tw16780154186608739458 : True := trivial
theorem tw10765032911363475270 : True := trivial
theorem tw18196174270854652042 : True := trivial
theorem tw14660929806877314166 : True := trivial
theorem tw17327510561780188364 : True := trivial
theorem tw5995533257958875 : True := trivial
theorem tw16607574199650782181 : True := trivial
theorem tw10482950531036084508 : True := trivial
theorem tw16548582409105701697 : True := trivial
theorem tw13164236208217073286 : True := trivial
theorem tw1785764399051674311 : True := trivial
theorem tw11957751464866168620 : True := trivial
theorem tw16226490322879978727 : True := trivial
theorem tw16331897537801442578 : True := trivial
theorem tw14127975408919617293 : True := trivial
theorem tw7758180298304932833 : True := trivial
theorem tw9804846077498826055 : True := trivial
theorem tw12163053124972113547 : True := trivial
theorem tw7923784928811097046 : True := trivial
theorem tw13434279578208506028 : True := trivial
theorem tw12801196681396111375 : True := trivial
theorem tw4461116321023582596 : True := trivial
theorem tw6113314327090105243 : True := trivial
end left
set_option Elab.async true in
/-- what the top leaves -/
theorem left : PySem.Challenge.rw_fc0054_01.row.Holds := by
  o_head (Mine.hookOf Hx.hd.heap_1 Mine.addrs_ok)
  case hw => trivial
  case hc => exact Mine.law_row
end Hy
end
set_option maxRecDepth 100000 in
set_option maxHeartbeats 8000000 in
theorem PySem.Challenge.cw_fc0054_01_holds : PySem.Challenge.rw_fc0054_01.Holds := by
  exact Mine.law_of_row fun _ => Hy.left
