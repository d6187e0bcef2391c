import PyProof.Rows.All
import Wide.All
import OpenK.AllK
import Wide.FinOn
import PyProof.StrLaws
import KE.KTryDeep
import PyProof.ExcStr
import PySem.Challenge.RW_nq0278_01
set_option compiler.extract_closed false
set_option Elab.async false
set_option maxRecDepth 100000
set_option maxHeartbeats 8000000
open PySem PySem.W PySem.Calls PyProof.Rows
section
namespace Mine
/-! plain sums, said once -/
theorem lt_eq {a b c : Nat} (h : a < b) (e : c = b) : a < c := Nat.lt_of_lt_of_eq h e.symm
theorem add1_lt {k f n : Nat} (h : k + (f + 1) = n) : k < n := Nat.lt_of_lt_of_eq (Nat.lt_add_of_pos_right (Nat.succ_pos f)) h
theorem add1_eq {k f n : Nat} (h : k + (f + 1) = n) : k + 1 + f = n := (Nat.succ_add k f).trans h
theorem sub1_ne {k : Nat} (h : 1 ≤ k) : k ≠ k - 1 := (Nat.ne_of_lt (Nat.sub_lt h Nat.one_pos)).symm
theorem lt_of_not {a b : Nat} (h : ¬ a < b) (e : a ≠ b) : b < a := Nat.lt_of_le_of_ne (Nat.le_of_not_lt h) (Ne.symm e)
theorem le_pred {i j : Nat} (h : i < j) : i ≤ j - 1 := Nat.le_sub_one_of_lt h
theorem mid_lt {l h : Nat} (a : ¬ l ≥ h) : (l + h) / 2 < h := by
  have a := Nat.lt_of_not_le a
  rw [Nat.div_lt_iff_lt_mul (by decide), Nat.mul_two]
  exact Nat.add_lt_add_right a h
theorem mid_ge {l h : Nat} (a : ¬ l ≥ h) : l ≤ (l + h) / 2 := by
  have a := Nat.lt_of_not_le a
  rw [Nat.le_div_iff_mul_le (by decide), Nat.mul_two]
  exact Nat.add_le_add_left (Nat.le_of_lt a) l
theorem dep {d k m R : Nat} (h : d + k < R) (hm : m ≤ k) : d + m < R := Nat.lt_of_le_of_lt (Nat.add_le_add_left hm d) h
end Mine
end
section
set_option maxHeartbeats 4000000
namespace Mine
/-- every object of the one heap stands in the other -/
noncomputable def Kp (h h' : Heap) : Prop := ∀ b o, h.get? b = some o → h'.get? b = some o
theorem Kp.refl (h : Heap) : Kp h h := fun _ _ e => e
theorem Kp.trans {a b c : Heap} (x : Kp a b) (y : Kp b c) : Kp a c := fun _ _ e => y _ _ (x _ _ e)
/-- a heap ahead of a call: what stands already, what is new -/
structure Ent (h₀ h : Heap) (news : List (Addr × Obj)) : Prop where
  keep : ∀ b o, h₀.get? b = some o → h.get? b = some o
  size : h₀.objs.size ≤ h.objs.size
  led : ∀ p ∈ news, h.get? p.1 = some p.2 ∧ h₀.get? p.1 = none
theorem Ent.self (h : Heap) : Ent h h [] := ⟨fun _ _ e => e, Nat.le_refl _, fun _ h => nomatch h⟩
theorem lookup_snoc {x : Str} {v : Value} {y : Str} : ∀ (l : List (Str × Value)), (∀ p ∈ l, p.1 ≠ x) → (l ++ [(x, v)]).lookup y = if y = x then some v else l.lookup y
  | [], _ => by
    show (match y == x with | true => some v | false => none) = _
    by_cases e : y = x
    · rw [if_pos e, beq_iff_eq.mpr e]
    · rw [if_neg e, beq_eq_false_iff_ne.mpr e]; rfl
  | (z, u) :: r, h => by
    show (match y == z with | true => some u | false => (r ++ [(x, v)]).lookup y) = if y = x then some v else (match y == z with | true => some u | false => r.lookup y)
    rw [lookup_snoc r fun p hp => h p (.tail _ hp)]
    by_cases e : y = z
    · rw [beq_iff_eq.mpr e]; dsimp only; by_cases e2 : y = x
      · exact absurd (e.symm.trans e2) (h _ (.head _))
      · rw [if_neg e2]
    · rw [beq_eq_false_iff_ne.mpr e]
theorem lookup_kst : ∀ {binds : List (Str × Value)}, (binds.map (·.1)).Nodup → (fun y => binds.reverse.lookup y) = kstB (fun _ => none) binds
  | [], _ => rfl
  | (x, v) :: r, h => by
    funext y
    have h' := List.nodup_cons.mp h
    rw [List.reverse_cons, lookup_snoc _ fun p hp e => h'.1 (List.mem_map.mpr ⟨p, List.mem_reverse.mp hp, e⟩)]
    show _ = if y = x then some v else kstB (fun _ => none) r y
    rw [← congrFun (lookup_kst h'.2) y]
theorem Fr.entered {h₀ h h₁ : Heap} {news : List (Addr × Obj)} {binds : List (Str × Value)} (B : Ent h₀ h news) (hnd : (binds.map (·.1)).Nodup) (hns : h₁.Ns h.objs.size (fun y => binds.reverse.lookup y))
    (hk : ∀ b o, h.get? b = some o → h₁.get? b = some o) : Fr h₀ h.objs.size h₁ (kstB (fun _ => none) binds) ∧ News h₀ h.objs.size h₁ news :=
  ⟨⟨lookup_kst hnd ▸ hns, fun b o e => hk b o (B.keep b o e), B.size⟩, fun q hq => ⟨hk _ _ (B.led q hq).1, Nat.ne_of_lt (Heap.lt_size (B.led q hq).1), (B.led q hq).2⟩⟩
theorem enter {K : Frag} {prog : Program} {w : World} {A : Around} {s : Shared} {p : Program} {loose : List Str} {mean : ExcName → Option Value} {mg mb : Str → Option Value} {h₀ : Heap} {news : List (Addr × Obj)}
    {Q E : Value → Shared → Prop} {name qual : Str} {params : Arguments} {body : List Stmt} {scope : Scope} {dV kV doc pm cdv ct oc : Value} {an od : Option Addr} {osl : Array (Option Value)} {f : Addr} {pos : List Value} {kw : List (Str × Value)} (binds : List (Str × Value))
    (X : K.In h₀) (T : Top p loose mean mg mb h₀) (B : Ent h₀ s.heap news)
    (ho : K.lookup f = some ⟨oc, od, .func (fnOf name qual params body scope dV kV doc pm an cdv ct), osl⟩) (hcd : codeIn K cdv qual = true) (hroom : A.depth < recursionLimit)
    (hbind : BindsTo s (fnOf name qual params body scope dV kV doc pm an cdv ct) ⟨pos, kw⟩ binds) (hloc : ∀ y ∈ binds, scope.names.lookup y.1 = some .local) (hnd : (binds.map (·.1)).Nodup)
    (h : ∀ L h₁ u tk, Fr h₀ L h₁ (kstB u binds) → News h₀ L h₁ news →
      wpAny (model prog w) (A.deeper (envOf qual scope L f cdv)) (execs body (envOf qual scope L f cdv))
        (fun fl s' => Q (match fl with | .ret v => v | _ => .none) s')
        (fun e s' => wpAny (model prog w) (A.deeper (envOf qual scope L f cdv)) (leaving (envOf qual scope L f cdv) e) (fun _ s'' => E e s'') (fun e' s'' => E e' s'') s')
        { s with heap := h₁, toks := tk })
    (hco : scope.isCoroutine = false) (hgen : scope.isGenerator = false) (hk : scope.kind = .function)
    (hcell : ∀ x ∈ scope.names, x.2 ≠ .cell) : wpAny (model prog w) A (call (.ref f) pos kw) Q E s := by
  have T' := T.keeps B.keep
  have X' := Frag.In.keeps X B.keep
  refine wpAny_call (codeAny_call_def (fd := fnOf name qual params body scope dV kV doc pm an cdv ct) (body := body) (binds := binds) hroom (X' _ _ ho) rfl T'.nolimit (codeRec_of X' hcd) rfl hbind hcell hloc (fun h₁ hns hk₁ => ?_) hco hgen hk)
  have Z := Fr.entered B hnd hns hk₁
  exact h s.heap.objs.size h₁ _ _ Z.1 Z.2
/-- a decoder that holds an object -/
noncomputable def dec : Code → Bool
  | .builtin id ⟨.ref _ :: _, _⟩ => Builtin.Bytes.decodersThatHold.contains id
  | _ => false
/-- no decoder on the stack holds an object -/
noncomputable def Cl (Γ : Ctx) : Prop := dec Γ.code = false ∧ ∀ q ∈ Γ.below, dec q.1 = false
noncomputable def wpC {α : Type} (M : Model) (A : Around) (t : Sem α) (Q : α → Shared → Prop) (s : Shared) : Prop :=
  ∀ Γ p, Γ.In A → Cl Γ → Sem.wp M Γ t (fun a _ s' => Q a s') (fun _ _ _ => False) p s
noncomputable def codeC (M : Model) (A : Around) (c : Code) (R : Result → Shared → Prop) (s : Shared) : Prop :=
  ∀ Γ p, Γ.code = c → Γ.Below A → Cl Γ → wpCode M Γ R p s
abbrev Fa : Value → Shared → Prop := fun _ _ => False
section
variable {α β : Type} {M : Model} {A : Around} {s : Shared}
theorem wpC_of {t : Sem α} {Q : α → Shared → Prop} (h : wpAny M A t Q Fa s) : wpC M A t Q s := fun Γ p hΓ _ => h Γ p hΓ
theorem wpC_pure {a : α} {Q : α → Shared → Prop} (h : Q a s) : wpC M A (pure a) Q s := fun _ _ _ _ => h
theorem wpC_mono {t : Sem α} {Q Q' : α → Shared → Prop} (h : wpC M A t Q s) (hQ : ∀ a s, Q a s → Q' a s) : wpC M A t Q' s :=
  fun Γ p hΓ hc => Sem.wp_mono M Γ t (fun a _ s => hQ a s) (fun _ _ _ h => h) p s (h Γ p hΓ hc)
theorem wpC_bind {m : Sem α} {f : α → Sem β} {Q : β → Shared → Prop} (h : wpC M A m (fun a s' => wpC M A (f a) Q s') s) : wpC M A (m >>= f) Q s := fun Γ p hΓ hc => by
  rw [Sem.wp_bind']
  exact Sem.wp_mono M Γ m (fun a p' s' h' => h' Γ p' hΓ hc) (fun _ _ _ h' => h') p s (h Γ p hΓ hc)
theorem wpC_bindA {m : Sem α} {f : α → Sem β} {Q : β → Shared → Prop} (h : wpAny M A m (fun a s' => wpC M A (f a) Q s') Fa s) : wpC M A (m >>= f) Q s := wpC_bind (wpC_of h)
theorem wpC_holding {vs : List Value} {m : Sem α} {Q : α → Shared → Prop} (h : wpC M A m Q s) : wpC M A (holding vs m) Q s :=
  fun Γ p hΓ hc => by rw [Sem.wp_holding]; exact h Γ p hΓ hc
theorem wpC_keep {vs : List Value} {m : Sem α} {Q : α → Shared → Prop} (h : wpC M A m Q s) : wpC M A (m.keep vs) Q s :=
  fun Γ p hΓ hc => by rw [Sem.wp_keep]; exact h Γ p hΓ hc
theorem wpC_onRaise {m : Sem α} {k : Value → Sem Unit} {Q : α → Shared → Prop} (h : wpC M A m Q s) : wpC M A (m.onRaise k) Q s := fun Γ p hΓ hc => by
  rw [Sem.wp_onRaise]
  exact Sem.wp_mono M Γ m (fun _ _ _ h' => h') (fun _ _ _ h' => h'.elim) p s (h Γ p hΓ hc)
theorem Cl.goto {Γ : Ctx} (h : Cl Γ) {c : Code} (hc : dec c = false) : Cl (Γ.goto c) := ⟨hc, h.2⟩
theorem Cl.enter {Γ : Ctx} (h : Cl Γ) {c : Code} (hc : dec c = false) (hd : Option Value) (p : Pos) : Cl (Γ.enter c hd p) :=
  ⟨hc, fun q hq => by rcases List.mem_cons.mp hq with rfl | hq; exact h.1; exact h.2 q hq⟩
theorem codeC_of_tree {c : Code} {R : Result → Shared → Prop}
    (h : wpC M (A.under c) (M.den c) (fun fin s' => match fin with | .done f => R (.ok f) s' | .again c' => c'.quiet = true ∧ dec c' = false ∧ codeC M A c' R s') s) : codeC M A c R s := fun Γ p hc hΓ hl => by
  rw [wpCode_iff_wp, hc]
  refine Sem.wp_mono M Γ _ (fun fin p' s' h' => ?_) (fun _ _ _ h' => h'.elim) p s (h Γ p (hc ▸ hΓ.in) hl)
  cases fin with
  | done f => exact h'
  | again c' => exact ⟨h'.1, h'.2.2 (Γ.goto c') p' rfl (hΓ.goto c') (hl.goto h'.2.1)⟩
abbrev okR (Q : Flow → Shared → Prop) : Result → Shared → Prop := fun r s' => match r with | .ok f => Q f s' | .error _ => False
abbrev okV (Q : Value → Shared → Prop) : Result → Shared → Prop := fun r s' => match r with | .ok (.ret v) => Q v s' | .ok _ => False | .error _ => False
theorem wpC_run {c : Code} {h : Option Value} {Q : Flow → Shared → Prop} (hc : codeC M (A.mark h) c (okR Q) s) (hd : dec c = false) (hnb : h ≠ some byPass := by intro x; cases x) : wpC M A (run c h) Q s :=
  fun Γ p hΓ hl => by rw [Sem.wp_run]; exact hc _ p rfl (hΓ.enter c h p hnb) (hl.enter hd h p)
theorem wpC_runValue {c : Code} {Q : Value → Shared → Prop} (hc : codeC M A c (okV Q) s) (hd : dec c = false) : wpC M A (runValue c) Q s :=
  fun Γ p hΓ hl => by rw [Sem.wp_runValue]; exact hc _ p rfl (hΓ.enter c none p (by intro x; cases x)) (hl.enter hd none p)
theorem wpC_call {f : Value} {pos : List Value} {kw : List (Str × Value)} {Q : Value → Shared → Prop} (hc : codeC M A (.call f ⟨pos, kw⟩) (okV Q) s) : wpC M A (call f pos kw) Q s := wpC_runValue hc rfl
theorem wpC_runOwn {c : Code} {env : Env} {Q : Flow → Shared → Prop} (hc : codeC M A c (okR Q) s) (hd : dec c = false) : wpC M A (runOwn c env) Q s := by
  unfold runOwn
  exact wpC_onRaise (wpC_run (h := none) hc hd)
theorem codeC_builtin {prog : Program} {w : World} {id : String} {args : Args} {b : Builtin} {R : Result → Shared → Prop} (hb : entryFor table id = some b)
    (h : wpC (model prog w) (A.under (.builtin id args)) (b args) (fun fin s' => match fin with | .done f => R (.ok f) s' | .again c' => c'.quiet = true ∧ dec c' = false ∧ codeC (model prog w) A c' R s') s) :
    codeC (model prog w) A (.builtin id args) R s := by
  refine codeC_of_tree ?_
  show wpC _ _ (match entryFor table id with | some b => b args | none => unsupported ((withoutEnding? id "#data").getD id)) _ s
  rw [hb]; exact h
theorem codeC_loop {c : Code} {R : Result → Shared → Prop} (hq : c.quiet = true) (hd : dec c = false) (I : Nat → Shared → Prop)
    (turn : ∀ n s, I n s → wpC M (A.under c) (M.den c)
      (fun fin s' => match fin with | .done f => R (.ok f) s' | .again c' => (c' = c ∧ ∃ m, m < n ∧ I m s') ∨ (c'.quiet = true ∧ dec c' = false ∧ codeC M A c' R s')) s)
    (n : Nat) (h : I n s) : codeC M A c R s := by
  induction n using Nat.strongRecOn generalizing s with
  | ind n ih =>
    refine codeC_of_tree (wpC_mono (turn n s h) (fun fin s' hf => ?_))
    cases fin with
    | done f => exact hf
    | again c' =>
      rcases hf with ⟨rfl, m, hm, hI⟩ | hf
      · exact ⟨hq, hd, ih m hm hI⟩
      · exact hf
end
section
variable {prog : Program} {w : World} {A : Around} {s : Shared} {env : Env}
theorem wpC_execs_nil {Q : Flow → Shared → Prop} (h : Q .next s) : wpC (model prog w) A (execs [] env) Q s := fun _ _ _ _ => h
theorem wpC_execs_cons {st : Stmt} {rest : List Stmt} {Q : Flow → Shared → Prop}
    (h : wpC (model prog w) A (exec st env) (fun f s' => match f with | .next => wpC (model prog w) A (execs rest env) Q s' | f => Q f s') s) : wpC (model prog w) A (execs (st :: rest) env) Q s := by
  rw [execs_cons]
  refine wpC_bind (wpC_mono h fun f s' h' => ?_)
  cases f <;> first | exact h' | exact wpC_pure h'
/-- a statement that the walk takes -/
theorem wpC_execs_any {st : Stmt} {rest : List Stmt} {Q : Flow → Shared → Prop}
    (h : wpAny (model prog w) A (exec st env) (fun f s' => match f with | .next => wpC (model prog w) A (execs rest env) Q s' | f => Q f s') Fa s) : wpC (model prog w) A (execs (st :: rest) env) Q s := wpC_execs_cons (wpC_of h)
theorem wpC_Assign_Name {x : Str} {pos' pos : Pos} {value : Expr} {Q : Flow → Shared → Prop}
    (h : wpC (model prog w) A (eval value env) (fun v s₁ => wpAny (model prog w) A (storeName env x v) (fun _ => Q .next) Fa s₁) s)
    (hs : swapsWith value (some (.Name x pos')) pos.line env = pure false := by rfl) : wpC (model prog w) A (exec (.Assign [.Name x pos'] value pos) env) Q s := by
  rw [exec_Assign_Name env x pos' value pos hs]
  refine wpC_bindA (wpAny_standAt (wpC_bind (wpC_mono h fun v s₁ h₁ => wpC_bindA (wpAny_standAt (wpC_bindA (wpAny_bindName (wpAny_mono h₁ (fun _ _ q => wpC_pure q) fun _ _ x => x)))))))
theorem wpC_Expr {e : Expr} {pos : Pos} {Q : Flow → Shared → Prop} (h : wpC (model prog w) A (eval e env) (fun v s' => v = .none ∧ Q .next s') s)
    (hi : interactive env = false := by rfl) (hs : swapsWith e none pos.line env = pure false := by rfl) : wpC (model prog w) A (exec (.Expr e pos) env) Q s := by
  rw [exec_Expr env e pos hi hs]
  refine wpC_bindA (wpAny_standAt (wpC_bind (wpC_mono h fun v s' h' => ?_)))
  obtain ⟨rfl, h'⟩ := h'
  rw [dropValue_plain (fun a x => by cases x)]
  exact wpC_pure h'
theorem wpC_If {test : Expr} {body orelse : List Stmt} {pos : Pos} {Q : Flow → Shared → Prop}
    (h : wpAny (model prog w) A (isTrue test env (eval test env)) (fun b s₂ => if b then wpC (model prog w) A (execs body env) Q s₂ else wpC (model prog w) A (execs orelse env) Q s₂) Fa s) :
    wpC (model prog w) A (exec (.If test body orelse pos) env) Q s := by
  rw [exec_If]
  refine wpC_bindA (wpAny_standAt (wpC_bindA (wpAny_mono h (fun b s₂ h₂ => ?_) fun _ _ x => x)))
  cases b <;> exact h₂
theorem wpC_While {test : Expr} {body orelse : List Stmt} {pos : Pos} {Q : Flow → Shared → Prop} (h : codeC (model prog w) A (.whileLoop test body orelse env) (okR Q) s) :
    wpC (model prog w) A (exec (.While test body orelse pos) env) Q s := by
  rw [exec_While]; exact wpC_bindA (wpAny_standAt (wpC_runOwn h rfl))
theorem codeC_while {test : Expr} {body orelse : List Stmt} {R : Result → Shared → Prop} (I : Nat → Shared → Prop)
    (turn : ∀ n s, I n s → wpAny (model prog w) A (isTrue test env (eval test env)) (fun b s₂ =>
        if b then wpC (model prog w) A (execs body env) (fun f s₃ => match f with
            | .next | .cont => ∃ m, m < n ∧ I m s₃
            | .brk => R (.ok .next) s₃
            | .ret v => R (.ok (.ret v)) s₃) s₂
        else wpC (model prog w) A (execs orelse env) (fun f s₃ => R (.ok f) s₃) s₂) Fa s)
    (n : Nat) (h : I n s) : codeC (model prog w) A (.whileLoop test body orelse env) R s := by
  refine codeC_loop rfl rfl I (fun n s hI => ?_) n h
  show wpC _ A ((whileTurn test body orelse env).onRaise (fun x => do noteFrame x env; theTreesLotGoes x)) _ s
  refine wpC_onRaise ?_
  simp only [whileTurn]
  refine wpC_bindA (wpAny_mono (turn n s hI) (fun b s₂ h₂ => ?_) fun _ _ h' => h')
  cases b with
  | false =>
    simp only [Bool.false_eq_true, if_false] at h₂ ⊢
    exact wpC_bind (wpC_mono h₂ fun f s₃ h₃ => wpC_pure h₃)
  | true =>
    simp only [if_true] at h₂ ⊢
    refine wpC_bind (wpC_mono h₂ fun f s₃ h₃ => ?_)
    cases f with
    | next => exact wpC_pure (.inl ⟨rfl, h₃⟩)
    | cont => exact wpC_pure (.inl ⟨rfl, h₃⟩)
    | brk => exact wpC_pure h₃
    | ret v => exact wpC_pure h₃
theorem wpC_For {target iter : Expr} {body orelse : List Stmt} {pos : Pos} {Q : Flow → Shared → Prop}
    (h : wpAny (model prog w) A (eval iter env) (fun x s₁ => wpAny (model prog w) A (pyIter x) (fun it s₂ => codeC (model prog w) A (.forLoop target it body orelse env) (okR Q) s₂) Fa s₁) Fa s)
    (hs : ∀ x, foldedSetIterable iter env x = pure x := by intro _; rfl) : wpC (model prog w) A (exec (.For target iter body orelse pos) env) Q s := by
  rw [exec_For]
  exact wpC_bindA (wpAny_standAt (wpC_bindA (wpAny_mono h (fun x s₁ h₁ => wpC_bindA (wpAny_of_eq (hs x) (wpC_bindA (wpAny_standAt (wpC_bind (wpC_holding
    (wpC_of (wpAny_mono h₁ (fun it s₂ h₂ => wpC_runOwn h₂ rfl) fun _ _ h' => h')))))))) fun _ _ h' => h')))
theorem codeC_block {stmts : List Stmt} {R : Result → Shared → Prop} (h : wpC (model prog w) A (execs stmts env) (fun f s' => R (.ok f) s') s) : codeC (model prog w) A (.block stmts env) R s := by
  refine codeC_of_tree ?_
  show wpC _ _ (do return Fin.done (← (execs stmts env).onRaise (fun x => do noteFrame x env; theTreesLotGoes x))) _ s
  exact wpC_bind (wpC_onRaise (wpC_mono h fun f s' h' => wpC_pure h'))
theorem codeC_for {R : Result → Shared → Prop} {target : Expr} {it : Value} {body orelse : List Stmt} (I : Nat → Shared → Prop)
    (turn : ∀ n s, I n s → wpAny (model prog w) A (pyNext it) (fun r s₁ => match r with
      | none => wpC (model prog w) A (execs orelse env) (fun f s₃ => R (.ok f) s₃) s₁
      | some v => wpAny (model prog w) A (letOwnedTupleGo target it v) (fun _ s₁ => wpAny (model prog w) A (assign target env v) (fun _ s₂ => wpC (model prog w) A (execs body env) (fun f s₃ => match f with
          | .next | .cont => ∃ m, m < n ∧ I m s₃
          | .brk => R (.ok .next) s₃
          | .ret v => R (.ok (.ret v)) s₃) s₂) Fa s₁) Fa s₁) Fa s)
    (n : Nat) (h : I n s) : codeC (model prog w) A (.forLoop target it body orelse env) R s := by
  refine codeC_loop rfl rfl I (fun n s hI => ?_) n h
  show wpC _ _ ((forTurn target it body orelse env).onRaise (fun x => do noteFrame x env; theTreesLotGoes x)) _ s
  refine wpC_onRaise ?_
  simp only [forTurn]
  refine wpC_bindA (wpAny_standAt (wpC_bind (wpC_onRaise (wpC_of (wpAny_mono (turn n s hI) (fun r s₁ h₁ => ?_) fun _ _ h' => h')))))
  cases r with
  | none => exact wpC_pure (.inr ⟨rfl, rfl, codeC_block h₁⟩)
  | some v =>
    refine wpC_bindA (wpAny_mono h₁ (fun _ s₁ h₁ => ?_) fun _ _ h' => h')
    refine wpC_bindA (wpAny_mono h₁ (fun _ s₂ h₂ => wpC_bind (wpC_mono h₂ fun f s₃ h₃ => ?_)) fun _ _ h' => h')
    cases f with
    | next => exact wpC_pure (.inl ⟨rfl, h₃⟩)
    | cont => exact wpC_pure (.inl ⟨rfl, h₃⟩)
    | brk => exact wpC_pure h₃
    | ret v => exact wpC_pure h₃
theorem codeC_func {body : List Stmt} {R : Result → Shared → Prop}
    (h : wpC (model prog w) (A.deeper env) (execs body env) (fun f s' => R (.ok (.ret (match f with | .ret v => v | _ => .none))) s') s) : codeC (model prog w) A (.func body env) R s := by
  refine codeC_of_tree ?_
  show wpC _ (A.deeper env) (do point; match ← (execs body env).onRaise (leaving env) with | .ret v => ret v | _ => ret .none) _ s
  refine wpC_bindA (wpAny_point (wpC_bind (wpC_onRaise (wpC_mono h fun f s' h' => ?_))))
  cases f <;> exact wpC_pure h'
theorem codeC_call_function {R : Result → Shared → Prop} {a : Addr} {args : Args} {o : Obj} {fd : FuncData} {body : List Stmt} (hroom : A.depth < recursionLimit) (ho : s.heap.get? a = some o)
    (hd' : o.data = .func fd) (hco : fd.scope.isCoroutine = false) (hgen : fd.scope.isGenerator = false) (hbody : fd.body = .stmts body) (hcd : s.heap.CodeRec fd.code fd.qualname)
    (h : wpAny (model prog w) A.in1 (bindArgs fd args) (fun binds s₁ =>
      wpAny (model prog w) A.in1 (newFunctionEnv fd.scope fd.globals fd.closure binds (fd.qualname ++ ".<locals>.") (some a) fd.code none fd.builtins)
        (fun env s₂ => s₂.heap.NoLimit ∧ codeC (model prog w) A (.func body env) R s₂) Fa s₁) Fa s) : codeC (model prog w) A (.call (.ref a) args) R s := by
  refine codeC_of_tree ?_
  show wpC _ A.in1 (callAny (.ref a) args) _ s
  refine wpC_of ?_
  simp only [callAny]
  refine wpAny_bind (wpAny_load ho ?_)
  obtain ⟨c, oc, vs, tq, hc, hoc, hdc, hq⟩ := hcd
  simp only [hd', callFunction, hco, hgen, hbody, hc]
  rw [hc] at h
  refine wpAny_bind (m := field (.ref c) 1) (wpAny_field hoc hdc hq (wpAny_bind (wpAny_pure ?_)))
  exact wpAny_bind (wpAny_mono h (fun binds s₁ h₁ => wpAny_bind (wpAny_mono h₁ (fun env s₂ h₂ => wpAny_bind (wpAny_enterFrame h₂.1 hroom
    (wpAny_pure ⟨rfl, rfl, h₂.2⟩))) fun _ _ h' => h')) fun _ _ h' => h')
theorem enterC {K : Frag} {p : Program} {loose : List Str} {mean : ExcName → Option Value} {mg mb : Str → Option Value} {h₀ : Heap} {news : List (Addr × Obj)}
    {Q : Value → Shared → Prop} {name qual : Str} {params : Arguments} {body : List Stmt} {scope : Scope} {dV kV doc pm cdv ct oc : Value} {an od : Option Addr} {osl : Array (Option Value)} {f : Addr} {pos : List Value} {kw : List (Str × Value)} (binds : List (Str × Value))
    (X : K.In h₀) (T : Top p loose mean mg mb h₀) (B : Ent h₀ s.heap news)
    (ho : K.lookup f = some ⟨oc, od, .func (fnOf name qual params body scope dV kV doc pm an cdv ct), osl⟩) (hcd : codeIn K cdv qual = true) (hroom : A.depth < recursionLimit)
    (hbind : BindsTo s (fnOf name qual params body scope dV kV doc pm an cdv ct) ⟨pos, kw⟩ binds) (hloc : ∀ y ∈ binds, scope.names.lookup y.1 = some .local) (hnd : (binds.map (·.1)).Nodup)
    (h : ∀ L h₁ u tk, Fr h₀ L h₁ (kstB u binds) → News h₀ L h₁ news →
      wpC (model prog w) (A.deeper (envOf qual scope L f cdv)) (execs body (envOf qual scope L f cdv))
        (fun fl s' => Q (match fl with | .ret v => v | _ => .none) s') { s with heap := h₁, toks := tk })
    (hco : scope.isCoroutine = false) (hgen : scope.isGenerator = false) (hk : scope.kind = .function)
    (hcell : ∀ x ∈ scope.names, x.2 ≠ .cell) : wpC (model prog w) A (call (.ref f) pos kw) Q s := by
  have T' := T.keeps B.keep
  have X' := Frag.In.keeps X B.keep
  refine wpC_call (codeC_call_function (fd := fnOf name qual params body scope dV kV doc pm an cdv ct) (body := body) hroom (X' _ _ ho) rfl hco hgen rfl (codeRec_of X' hcd) (hbind _ _ _ _ ?_))
  refine wpAny_newFunctionEnv hcell hloc (fun h₀' hns₀ hsb₀ => ⟨T'.nolimit.fresh _ hsb₀, codeC_func ?_⟩) hk
  have hk₁ : ∀ b o, s.heap.get? b = some o → h₀'.get? b = some o := fun b o e => hsb₀.extBut b o (Nat.ne_of_lt (Heap.lt_size e)) (Heap.get?_push_of_some _ e)
  have Z := Fr.entered B hnd hns₀ hk₁
  exact h s.heap.objs.size h₀' _ _ Z.1 Z.2
end
/-! the bridge: a walk in clean contexts gives the row -/
theorem cl_caller : Cl ⟨.builtin "claim.caller" {}, none, none, [], none⟩ := ⟨rfl, fun _ h => nomatch h⟩
theorem ends_C {prog : Program} {w : World} {t : Sem Fin} {s : Shared} {R : Result → Shared → Prop} (hreg : s.asleep)
    (h : wpC (model prog w) callerA t (fun fin s' => ∃ f, fin = .done f ∧ (R (.ok f) s' ∧ leftWithCleanup s'.gens = false)) s) :
    ∃ n r s' s'', runN (denote table) prog w n s ⟨t, .builtin "claim.caller" {}, default, []⟩ = .halted (outcomeOf r) s' ∧
      schedN (denote table) prog w n (.single s ⟨t, .builtin "claim.caller" {}, default, []⟩) = .halted (outcomeOf r) s' ∧ s'.forget = s''.forget ∧ R r s'' := by
  obtain ⟨n, r, s₁, s₂, hs, hn, hfo, hR⟩ := wp_halts_full (M := model prog w) (R := R) (p := default) hreg
    (Sem.wp_mono _ _ t (fun fin p' s' h' => by obtain ⟨f, rfl, hf⟩ := h'; exact hf) (fun _ _ _ h' => h'.elim) default s (h _ default caller_in cl_caller))
  exact ⟨n, r, s₂, s₁, hn, hs, hfo, hR⟩
theorem callFrom_C {c : ClaimW} {tree : List Value → Sem Fin} {w : World} {s : Shared} {free : Addr → Prop} {gens : Prop} {kept : Heap → Prop} (hz : s.asleep) (hgens : s.gens = #[])
    (hspec : ∀ args, c.pre args = true → WData.layableAll args = true → ∀ ord : List DictEntry → List DictEntry, (∀ l, (ord l).Perm l) →
      ∃ vs s₁, layAllW c.records (classAt s.heap) w.params ord args s = some (vs, s₁) ∧
        wpC (model c.prog w) callerA (tree vs) (fun fin s' => ∃ f, fin = .done f ∧ (c.Ends s args vs s₁ (.ok f) s' ∧ s'.os = s.os ∧ AllBare s'.gens ∧ kept s'.heap)) s₁) :
    c.CallFrom (fun vs => ⟨tree vs, .builtin "claim.caller" {}, default, []⟩) w free gens kept s := by
  intro args hpre hlay ord hord
  obtain ⟨vs, s₁, hlaid, hcode⟩ := hspec args hpre hlay ord hord
  have hal := layAllW_rest _ _ _ hlaid
  obtain ⟨k, r, s', s'', hrun, hsched, hfo, hcase, hos, hkp⟩ := ends_C (prog := c.prog) (w := w) (t := tree vs) (s := s₁)
    (R := fun r s' => c.Ends s args vs s₁ r s' ∧ s'.os = s.os ∧ kept s'.heap) (Shared.asleep_of_life hal.2.2.2 hz)
    (wpC_mono hcode (fun fin s' x => let ⟨f, e, h1, h2, h3, h4⟩ := x; ⟨f, e, ⟨h1, h2, h4⟩, leftWithCleanup_false_of_bare h3⟩))
  obtain ⟨eh, _, _, eo, _⟩ := Shared.forget_eq hfo
  have hcase := hcase.congr eh
  have hkp : kept s'.heap := by rw [eh]; exact hkp
  rw [← eo] at hos
  have hlife : s'.heap.life = s.heap.life := (runN_life _ _ _ hrun).trans hal.2.2.2
  refine ⟨vs, s₁, hlaid, k, _, s', hsched, ?_, (fun _ i x hx => by rw [hgens] at hx; simp at hx), hkp, by rw [hlife], Shared.rest_eq hos⟩
  rcases hcase with ⟨v, rfl, d1, d2, d3, d4, d5⟩ | ⟨e, ob, cls, rfl, d1, d2, d3, d4, d5⟩
  · exact .inl ⟨v, rfl, d1, d2, d3, fun b o y _ => d4 b o y, d5⟩
  · exact .inr ⟨e, ob, cls, rfl, d1, d2, d3, d4, fun b o y _ => d5 b o y⟩
/-- what is to be walked, in clean contexts -/
abbrev WalkC (q : Program) (loose : List Str) (XP : (Str → Option Value) → Heap → Prop) (YP : World → Heap → Prop) (r : RowW) (d : DefRec) (kwd : List (Str × Expr)) : Prop :=
  ∀ (w : World) (s₀ s₁ : Shared) (mg mb : Str → Option Value), Ground q loose r.records XP w s₀ mg mb s₁.heap → YP w s₁.heap → ∀ (a : Addr) (o : Obj) (pm cd doc dV kV : Value), s₁.heap.get? a = some o →
    o.data = .func { docDef d.name d.params d.body d.scope pm cd doc with defaults := dV, kwdefaults := kV } → s₁.heap.CodeRec cd d.name → Dflts mg s₁.heap d.params kwd dV kV → mg d.name = some (.ref a) → s₁.gens = #[] →
    ∀ (args : List WData) (vals : List Value) (as : List Addr), r.claim.pre args = true → WData.layableAll args = true → ReadsAllW r.records (classAt s₀.heap) s₁.heap vals args as → WellAll w.params s₁.heap vals args → (∀ a ∈ as, (a == sysModules) = false) →
      wpC (model r.prog w) callerA (PySem.call (.ref a) vals) (fun v s' => GoodWG r.claim (classAt s₀.heap) (ExcName.means s₀.heap) args s₁ (.ok (.ret v)) s') s₁
theorem open_any_C {r : OpenRow} {q : Program} {loose : List Str} {Xt : Shared → Bool} {XP : (Str → Option Value) → Heap → Prop} {α : Type} {Yf : Shared → α} {Ya : World → α} {YP : World → Heap → Prop} {d : DefRec} {kwd : List (Str × Expr)} {N : Nat}
    (left : LeftO r.prog q loose Xt Yf Ya N) (hY : ∀ w s, Yf s = Ya w → YP w s.heap) (hYk : ∀ w h h', YP w h → (∀ b o, h.get? b = some o → h'.get? b = some o) → YP w h')
    (hX : ∀ s, Xt s = true → XP (s.heap.nsMap mainGlobals) s.heap) (hXk : ∀ mg h h', XP mg h → (∀ b o, h.get? b = some o → h'.get? b = some o) → XP mg h')
    (hdef : defOf q r.name = some (d, kwd)) (hp : r.prog.theDef r.name = some (d.params, d.body, d.scope)) (hk : kwWritten? d.params.kwonlyargs d.params.kw_defaults = some kwd) (hRf : ∀ s, Xt s = true → RecFacts r.records s.heap) (hwr : (!r.writes || r.records.isEmpty) = true)
    (k1 : r.wellSaid = true) (ok : (chainsOk q && opensWell r.prog && (frees r.toRowW && r.within.isEmpty)) = true) (hb : r.prog.bare) (hw : r.toRowW.promised)
    (call : WalkC q loose XP YP r.toRowW d kwd) : r.Holds := by
  obtain ⟨ok, k5⟩ := Bool.and_eq_true_iff.mp ok
  obtain ⟨hch, o1⟩ := Bool.and_eq_true_iff.mp ok
  obtain ⟨k5, k6⟩ := Bool.and_eq_true_iff.mp k5
  obtain ⟨hsame, hu, ha, hap, hm⟩ := frees_parts k5
  refine ⟨k1, hw, ⟨hb, o1, by show r.toRowW.makers.map _ = []; rw [hm]; rfl⟩, hw.witness, fun w => ⟨(left.behind hX hch w).1, fun s' hs' => ?_⟩⟩
  obtain ⟨s₀, hf, hg0, s, hT, hz, hgens, hg, G00, y⟩ := (left.behind (XP := fun mg h => XP mg h ∧ RecFacts r.records h) (fun s hs => ⟨hX s hs, hRf s hs⟩) hch w).2 s' hs'
  have G0 : Ground q loose [] XP w s (s.heap.nsMap mainGlobals) (s.heap.nsMap builtinsNs) s.heap := ⟨G00.T, G00.B, G00.D, G00.TE, G00.TD, G00.W, G00.X.1, G00.cls, G00.has, G00.apart, G00.once, G00.K⟩
  have RF := G00.X.2
  refine ⟨s₀, hf, hg0, s, hT, (fun n hn => ?_), RF.1, RF.2.1, ?_⟩
  · obtain rfl : n = r.name := by split at hn <;> simp_all
    exact pinned_of_view hg G0 hdef hp hk
  have hgens : s.gens = #[] := Array.eq_empty_of_size_eq_zero (beq_iff_eq.mp hgens)
  have G : Ground q loose r.records XP w s _ _ s.heap := RF.ground G0
  refine callFrom_C (c := r.toRowW.claim) (tree := fun vs => do match ← nsGet mainNs r.name with
      | some f => do ret (← PySem.call f vs)
      | none => unsupported "claim.caller:no-such-global") hz hgens fun args hpre hlay ord hord => ?_
  obtain ⟨⟨vs, s₁⟩, hlaid⟩ := Option.isSome_iff_exists.mp (layAllW_isSome (P := w.params) (ord := ord) G.has args r.args s (pre_splitW hpre).1)
  have keeps := layAllW_keeps _ _ _ hlaid
  have hal := layAllW_rest _ _ _ hlaid
  obtain ⟨as, hrd, hin, hold⟩ := reads_layAllW hord _ _ _ hlaid hlay s₁.heap (fun _ _ e => e)
  have L : Laid r.records w s s₁ args vs as := ⟨⟨ord, hord, hlaid⟩, hrd, hin, hold, keeps, hal.1.trans hgens, hal.2.2.1⟩
  have G₁ := G.keeps hXk keeps
  obtain ⟨a, o, pm, cd, doc, dV, kV, h1, h2, h3, h4, h5⟩ := G₁.fn hdef
  have h := call w s s₁ _ _ G₁ (hYk _ _ _ (hY w s y) keeps) a o pm cd doc dV kV h2 h3 h4 h5 (defOf_name hdef ▸ h1) L.gens args vs as hpre hlay L.reads L.well (L.low G.low)
  have hi := ident_freeW hu ha hap
  have hwi : r.toRowW.claim.within = [] := List.isEmpty_iff.mp k6
  refine ⟨vs, s₁, hlaid, ?_⟩
  refine wpC_bindA (wpAny_nsGet G₁.T.g (by
    rw [h1]
    refine wpC_bind (wpC_mono h fun v s' g => wpC_pure ⟨_, rfl, ?_⟩)
    have z := g.laid (c := r.toRowW.claim) hsame hwi hi L
    exact ⟨z.1, z.2.1, z.2.2, fun q => ⟨namesKept_of hT hg _ keeps g.2.1.old, noTable hwr q⟩⟩))
end Mine
end
section
namespace Mine
abbrev pw : Program := PySem.Challenge.pw_nq0278_01
abbrev rw0 : OpenRow := PySem.Challenge.rw_nq0278_01.row
/-- the part of the text that the head looks at: the row's callee; all else is known by the written heap -/
noncomputable def qv : Program := view pw [0, 29]
noncomputable def loose0 : List PySem.Str := [PySem.Str.ofString "_wall", PySem.Str.ofString "_twin_re_1", PySem.Str.ofString "_namespace_map", PySem.Str.ofString "_raise_serialization_error", PySem.Str.ofString "_looks_like_prefix_name", PySem.Str.ofString "C14NWriterTarget", PySem.Str.ofString "_escape_cdata_c14n", PySem.Str.ofString "_escape_attrib_c14n", PySem.Str.ofString "T", PySem.Str.ofString "digits", PySem.Str.ofString "generate_generalized_integer", PySem.Str.ofString "adapt", PySem.Str.ofString "generate_integers", PySem.Str.ofString "decode_generalized_number", PySem.Str.ofString "insertion_sort", PySem.Str.ofString "punycode_decode", PySem.Str.ofString "_law_remarks", PySem.Str.ofString "_law_bare", PySem.Str.ofString "_law_written", PySem.Str.ofString "_law_order", PySem.Str.ofString "_law_gaps", PySem.Str.ofString "_law_numbers", PySem.Str.ofString "_law_label", PySem.Str.ofString "_law_shown", PySem.Str.ofString "_law_refusal"]
theorem law_some : (defOf qv (PySem.Str.ofString "law")).isSome = true := by kernel_rfl
noncomputable def lawD : DefRec × List (PySem.Str × PySem.Expr) := (defOf qv (PySem.Str.ofString "law")).get law_some
theorem law_def : defOf qv rw0.name = some (lawD.1, lawD.2) := (Option.some_get law_some).symm
theorem law_the : rw0.prog.theDef rw0.name = some (lawD.1.params, lawD.1.body, lawD.1.scope) := by kernel_rfl
theorem law_kw : kwWritten? lawD.1.params.kwonlyargs lawD.1.params.kw_defaults = some lawD.2 := by kernel_rfl
theorem holds_C (H : Hook) (hw : rw0.toRowW.promised)
    (hc : rw0.wellSaid = true ∧ LeftO pw qv loose0 (fun s => xlAt qv [] s && recOk rw0.toRowW.records s) (Hook.obs H) (Hook.val H) 3264 ∧ WalkC qv loose0 (XL qv []) (Hook.says H) rw0.toRowW lawD.1 lawD.2) : rw0.Holds :=
  open_any_C (r := rw0) hc.2.1 (Hook.of H) (Hook.keeps H) (fun s e => xl_of s (Bool.and_eq_true_iff.mp e).1) XL.keeps law_def law_the law_kw (fun s e => recFacts_of (Bool.and_eq_true_iff.mp e).2) rfl hc.1
    (by decide +kernel) ⟨rfl, rfl, rfl, rfl, rfl, by decide +kernel⟩ hw hc.2.2
local macro_rules | `(tactic| o_head $H) => `(tactic| apply holds_C $H)
open_top hd for PySem.Challenge.rw_nq0278_01.row
end Mine
end
section
namespace Mine
section
open PySem.W.Fast
theorem said1 : tw11788848310118352699 (tw2368527892694137696 PySem.Challenge.rw_nq0278_01).prog.main = true := by kernel_rfl
theorem said2 : ((tw9807087744658564304 (tw2368527892694137696 PySem.Challenge.rw_nq0278_01).prog.main.body).isEmpty ||
    tw12862048085361865435 (tw9807087744658564304 (tw2368527892694137696 PySem.Challenge.rw_nq0278_01).prog.main.body) (tw2368527892694137696 PySem.Challenge.rw_nq0278_01).prog.main.body) = true := by kernel_rfl
theorem said3 : tw8377067652309620493 (tw2368527892694137696 PySem.Challenge.rw_nq0278_01).prog = true := by kernel_rfl
theorem said5 : tw8326940854005059898
    { strict := !R.allR (tw5923862056798008813 (tw2368527892694137696 PySem.Challenge.rw_nq0278_01).prog.main.body) (tw3471404346716756564 tw17691160309236699985),
      foot := none,
      bare := R.filterR (tw13343964577679436407 (tw2368527892694137696 PySem.Challenge.rw_nq0278_01).prog (tw2368527892694137696 PySem.Challenge.rw_nq0278_01).prog.main.body)
          [⟨⟨[118, 97, 114, 115]⟩⟩, ⟨⟨[100, 105, 114]⟩⟩, ⟨⟨[108, 111, 99, 97, 108, 115]⟩⟩] }
    (tw2368527892694137696 PySem.Challenge.rw_nq0278_01).prog.main.body = true := by kernel_rfl
theorem said6 : (tw17119622794617984870 (tw2368527892694137696 PySem.Challenge.rw_nq0278_01).prog (tw2368527892694137696 PySem.Challenge.rw_nq0278_01).prog.main.body fun x n => tw17868728402115742887 n) = true := by kernel_rfl
theorem said : PySem.Challenge.rw_nq0278_01.wellSaid = true := by
  rw [te9446332074065402090]
  delta tw9446332074065402090 tw17960256430627541270 tw2436336058641802641 tw12908688711261696721
  repeat' with_reducible apply look_both
  all_goals try with_reducible first | exact said1 | exact said2 | exact said3 | exact said6
  · kernel_rfl
  · exact said5
  all_goals kernel_rfl
end
/-- the opening, asked apart for the two ways that the world may take -/
theorem left_two {p q : Program} {loose : List PySem.Str} {Xt : Shared → Bool} {α : Type} {Yf : Shared → α} {Ya : World → α} {N : Nat} {g0 : Bool} (row : String)
    (h : ∀ (w : World) (b : Bool), (fencedOpening treeTable p w N).map (fun s₀ => (topFrom treeTable p (w.withFollow row b) N s₀).map (fun s => (openSeen q loose (importedModules p.main.body) Xt g0 s, Yf s))) =
      some (some (openGood q loose, Ya (w.withFollow row b)))) : LeftO p q loose Xt Yf Ya N g0 :=
  LeftO.of_split row fun w => by
    obtain ⟨s₀, a, b⟩ := Option.map_eq_some_iff.mp (h w false)
    obtain ⟨s₁, a', b'⟩ := Option.map_eq_some_iff.mp (h w true)
    obtain rfl : s₀ = s₁ := Option.some.inj (a.symm.trans a')
    exact Option.map_eq_some_iff.mpr ⟨s₀, a, Prod.ext b b'⟩
/-- the hook that the head was laid with -/
noncomputable def hookOf {H : Hook} {A W R : Prop} {p q : Program} {loose : List PySem.Str} {Xt : Shared → Bool} {N : Nat} (_ : A ∧ LeftO p q loose Xt (Hook.obs H) (Hook.val H) N ∧ W → R) : Hook := H
abbrev LeftAt (b : Bool) : Prop := ∀ w : World, (fencedOpening treeTable pw w 3264).map (fun s₀ => (topFrom treeTable pw (w.withFollow "special-get-raises" b) 3264 s₀).map (fun s =>
  (openSeen qv loose0 (importedModules pw.main.body) (fun s => xlAt qv [] s && recOk rw0.toRowW.records s) true s, Hook.obs (hookOf hd) s))) = some (some (openGood qv loose0, Hook.val (hookOf hd) (w.withFollow "special-get-raises" b)))
theorem left_no : LeftAt false := by
  intro w
  unfold fencedOpening topFrom
  rw [PySem.W.Fast.te10274390034422433532, PySem.W.Fast.te14289696077712309145, PySem.W.Fast.te14082659384304107361, PySem.W.Fast.te1435165496053646825, PySem.W.Fast.te4187177175401517315, PySem.W.Fast.te14364793385576792824]
  kernel_rfl
theorem left_yes : LeftAt true := by
  intro w
  unfold fencedOpening topFrom
  rw [PySem.W.Fast.te10274390034422433532, PySem.W.Fast.te14289696077712309145, PySem.W.Fast.te14082659384304107361, PySem.W.Fast.te1435165496053646825, PySem.W.Fast.te4187177175401517315, PySem.W.Fast.te14364793385576792824]
  kernel_rfl
theorem left_all : LeftO pw qv loose0 (fun s => xlAt qv [] s && recOk rw0.toRowW.records s) (Hook.obs (hookOf hd)) (Hook.val (hookOf hd)) 3264 :=
  left_two "special-get-raises" fun w b => match b with | false => left_no w | true => left_yes w
theorem row (walk : WalkC qv loose0 (XL qv []) (InK hd.heap_1) rw0.toRowW lawD.1 lawD.2) : PySem.Challenge.rw_nq0278_01.Holds :=
  holds_law said fun s => hd ⟨s, left_all, fun w s₀ s₁ mg mb G Y => walk w s₀ s₁ mg mb G Y.1⟩
end Mine
end
section
open PySem PySem.W PyProof.Rows
set_option maxHeartbeats 4000000
namespace Mine
section
variable {prog : Program} {w : World} {A : Around} {s : Shared}
theorem any_false_of {α : Type} {f : α → Bool} : ∀ {l : List α}, (∀ x ∈ l, f x = false) → l.any f = false
  | [], _ => rfl
  | x :: r, h => by rw [List.any_cons, h x (.head _), any_false_of fun y hy => h y (.tail _ hy)]; rfl
theorem exportedC {M : Model} {self : Value} {Q : Bool → Shared → Prop} (hg : A.guards = some []) (h : Q false s) : wpC M A (Builtin.Bytes.exported self) Q s := by
  intro Γ p hΓ hl
  have hgu := hΓ.2.2.2.1 [] hg
  rw [← guardsOf_cons Γ.code p] at hgu
  unfold Builtin.Bytes.exported
  show Q (((Γ.code, p) :: Γ.below).any _) s
  rw [any_false_of]
  · exact h
  · intro x hx
    have hd : dec x.1 = false := by
      rcases List.mem_cons.mp hx with rfl | hx
      · exact hl.1
      · exact hl.2 _ hx
    have hi : x.1.isGuard = false := by
      cases hq : x.1.isGuard with
      | false => rfl
      | true =>
        have : x.1 ∈ guardsOf ((Γ.code, p) :: Γ.below) := by
          unfold guardsOf
          exact List.mem_filter.mpr ⟨List.mem_map_of_mem hx, hq⟩
        rw [hgu] at this
        exact nomatch this
    obtain ⟨c, q⟩ := x
    dsimp only at hd hi
    cases c with
    | builtin id args =>
      obtain ⟨pos, kw⟩ := args
      have hi' : guardIds.contains id = false := hi
      have n1 : id ≠ "bytearray.__contains__" := fun e => by rw [e] at hi'; exact absurd hi' (by decide +kernel)
      have n2 : id ≠ "bytearray.__mod__" := fun e => by rw [e] at hi'; exact absurd hi' (by decide +kernel)
      have n3 : id ≠ "bytearray.__rmod__" := fun e => by rw [e] at hi'; exact absurd hi' (by decide +kernel)
      have n4 : id ≠ "_struct.pack_into.held" := fun e => by rw [e] at hi'; exact absurd hi' (by decide +kernel)
      have n5 : id ≠ "bytearray.find.held" := fun e => by rw [e] at hi'; exact absurd hi' (by decide +kernel)
      delta PySem.Builtin.Bytes.exported.match_1
      refine (dif_neg n1).trans ((dif_neg n2).trans ((dif_neg n3).trans ((dif_neg n4).trans ((dif_neg n5).trans ?_))))
      cases pos with
      | nil => rfl
      | cons v tl =>
        show (Builtin.Bytes.sameRef v self && Builtin.Bytes.decodersThatHold.contains id) = false
        cases v with
        | ref a => rw [show Builtin.Bytes.decodersThatHold.contains id = false from hd, Bool.and_false]
        | _ => first | rfl | (cases self <;> rfl)
    | _ => rfl
theorem checkResizeC {M : Model} {a : Addr} {o : Obj} {b : Array UInt8} {Q : Unit → Shared → Prop} (hg : A.guards = some []) (ho : s.heap.get? a = some o) (hd : o.data = .bytearray b 0) (h : Q () s) : wpC M A (Builtin.Bytes.checkResize (.ref a)) Q s := by
  unfold Builtin.Bytes.checkResize
  refine wpC_bind ?_
  unfold orM
  refine wpC_bind (exportedC hg ?_)
  refine wpC_of ?_
  show wpAny M A (Builtin.Bytes.exportsOf (.ref a) >>= _) _ _ s
  unfold Builtin.Bytes.exportsOf
  refine wpAny_bind (wpAny_bind (wpAny_load ho ?_))
  rw [hd]
  exact wpAny_pure (wpAny_pure (wpC_pure h))
end
namespace F
theorem ba_plainAttrs : PlainAttrs "bytearray" :=
  ⟨⟨"bytearray.__getattribute__", by rw [typeLookup_type, builtinLookup_eq_fast]; kernel_rfl, by decide +kernel⟩, by rw [typeLookup_type, builtinLookup_eq_fast]; kernel_rfl⟩
theorem ba_slot_append : Slot "bytearray" "append" "bytearray.append" :=
  .of (owner := "bytearray") (n := "append") (by rw [typeLookup_type, builtinLookup_eq_fast]; kernel_rfl) (by decide +kernel) (by decide +kernel) (by decide +kernel)
    (by first | exact .inl (by decide +kernel) | exact .inr (by decide +kernel)) (by rw [isSubtype_type]; kernel_rfl)
theorem ba_slot_extend : Slot "bytearray" "extend" "bytearray.extend" :=
  .of (owner := "bytearray") (n := "extend") (by rw [typeLookup_type, builtinLookup_eq_fast]; kernel_rfl) (by decide +kernel) (by decide +kernel) (by decide +kernel)
    (by first | exact .inl (by decide +kernel) | exact .inr (by decide +kernel)) (by rw [isSubtype_type]; kernel_rfl)
theorem ba_slot_init : Slot "bytearray" "__init__" "bytearray.__init__" :=
  .of (owner := "bytearray") (n := "__init__") (by rw [typeLookup_type, builtinLookup_eq_fast]; kernel_rfl) (by decide +kernel) (by decide +kernel) (by decide +kernel)
    (by first | exact .inl (by decide +kernel) | exact .inr (by decide +kernel)) (by rw [isSubtype_type]; kernel_rfl)
theorem ba_ty_append : typeOf (.builtin "bytearray.append") = pure (.type "method_descriptor") := by kernel_rfl
theorem ba_ty_extend : typeOf (.builtin "bytearray.extend") = pure (.type "method_descriptor") := by kernel_rfl
theorem ba_entry_append : entryFor table "bytearray.append" = some Builtin.«bytearray.append» := entryFor_of_tree (by kernel_rfl)
theorem ba_entry_extend : entryFor table "bytearray.extend" = some Builtin.«bytearray.extend» := entryFor_of_tree (by kernel_rfl)
theorem ba_entry_init : entryFor table "bytearray.__init__" = some Builtin.«bytearray.__init__» := entryFor_of_tree (by kernel_rfl)
theorem ba_entry_new : entryFor table "bytearray.__new__" = some Builtin.«list.__new__» := entryFor_alias (id' := "list.__new__") (by rw [fastTable_eq_tree]; kernel_rfl) (by decide +kernel) (by decide +kernel) (by rw [fastTable_eq_tree]; kernel_rfl)
theorem ba_mro : mroOf (.type "bytearray") = pure [.type "bytearray", .type "object"] := by rw [mroOf_type]; kernel_rfl
theorem ba_lookup_new : typeLookup (.type "bytearray") "__new__" = pure (some (.builtin "bytearray.__new__")) := by rw [typeLookup_type, builtinLookup_eq_fast]; kernel_rfl
theorem ba_sub : isSubtype (.type "bytearray") (.type "bytearray") = pure true := by rw [isSubtype_type]; kernel_rfl
theorem ba_called : TypeCalled "bytearray" "bytearray.__new__" "bytearray.__init__" :=
  ⟨by decide +kernel, by decide +kernel, ⟨_, _, ba_mro⟩, madeBy_type ba_mro ba_lookup_new (by decide +kernel), by decide +kernel, ba_sub, ba_slot_init⟩
theorem ba_typeCall : checkTypeCall "bytearray" ⟨[], []⟩ = pure () := by kernel_rfl
theorem ba_newCall : checkBuiltinCall "bytearray.__new__" ⟨[.type "bytearray"], []⟩ = pure () := by kernel_rfl
theorem ba_release : typeLookup (.type "bytearray") "__release_buffer__" = pure (some (.builtin "bytearray.__release_buffer__")) := by rw [typeLookup_type, builtinLookup_eq_fast]; kernel_rfl
theorem ba_buffer : typeLookup (.type "bytearray") "__buffer__" = pure (some (.builtin "bytearray.__buffer__")) := by rw [typeLookup_type, builtinLookup_eq_fast]; kernel_rfl
theorem ba_plain_append : plainId "bytearray.append" = true := by decide +kernel
theorem ba_plain_extend : plainId "bytearray.extend" = true := by decide +kernel
theorem ba_plain_init : plainId "bytearray.__init__" = true := by decide +kernel
theorem ba_plain_new : plainId "bytearray.__new__" = true := by decide +kernel
theorem ba_args_append (a : Addr) (v : Value) : argsOk "bytearray.append" ⟨[.ref a, v], []⟩ := by unfold argsOk; kernel_rfl
theorem ba_args_extend (a : Addr) (v : Value) : argsOk "bytearray.extend" ⟨[.ref a, v], []⟩ := by unfold argsOk; kernel_rfl
theorem ba_args_init (a : Addr) : argsOk "bytearray.__init__" ⟨[.ref a], []⟩ := by unfold argsOk; kernel_rfl
theorem ba_bind : Builtin.Bytes.bindOptional "bytearray.__init__" "bytearray" ["source", "encoding", "errors"] [] [] = pure [none, none, none] := by kernel_rfl
end F
set_option maxRecDepth 1000000 in
set_option maxHeartbeats 4000000 in
theorem owner_ba_new : ("bytearray.__new__".splitOn ".__new__").headD "" = "bytearray" := by simp +decide [String.splitOn, String.splitOnAux]
/-- the object of a bytearray -/
abbrev baObj (b : Array UInt8) : Obj := { cls := .type "bytearray", data := .bytearray b }
section
variable {prog : Program} {w : World} {A : Around} {s : Shared}
theorem codeC_call_builtin {R : Result → Shared → Prop} {id : String} {args : Args} {b : Builtin} (hq : plainId id = true) (hb : entryFor table id = some b) (hdc : dec (.builtin id args) = false)
    (h : wpAny (model prog w) A.in1 (checkBuiltinCall id args) (fun _ s₁ => wpC (model prog w) A.in1 (b args)
      (fun fin s' => match fin with | .done f => R (.ok f) s' | .again c' => c'.quiet = true ∧ dec c' = false ∧ codeC (model prog w) A c' R s') s₁) Fa s) : codeC (model prog w) A (.call (.builtin id) args) R s := by
  refine codeC_of_tree ?_
  show wpC _ A.in1 (do checkBuiltinCall id args; again (.builtin id args)) _ s
  refine wpC_bindA (wpAny_mono h (fun _ s₁ h₁ => wpC_pure ⟨plainId_quiet hq args, hdc, codeC_of_tree ?_⟩) fun _ _ h' => h')
  rw [Around.under_plainId hq args]
  show wpC _ _ (match entryFor table id with | some b => b args | none => unsupported ((withoutEnding? id "#data").getD id)) _ s₁
  rw [hb]; exact h₁
theorem typeIs_ba {a : Addr} {b : Array UInt8} (ho : s.heap.get? a = some (baObj b)) : s.TypeIs (.ref a) "bytearray" := ⟨_, ho, rfl⟩
theorem write_ba {M : Model} {E : Value → Shared → Prop} {a : Addr} {b : Array UInt8} {f : Array UInt8 → Array UInt8} {Q : Unit → Shared → Prop} (ho : s.heap.get? a = some (baObj b)) (hz : (f b).size ≤ sizeLine)
    (h : ∀ h', h'.get? a = some (baObj (f b)) → Heap.SameBut a s.heap h' → Q () { s with heap := h' }) : wpAny M A (Builtin.Bytes.write (.ref a) f) Q E s := by
  show wpAny _ _ (updateBytearray a f) _ _ _
  unfold updateBytearray
  refine wpAny_bind (wpAny_load ho ?_)
  show wpAny _ _ (update a (Obj.mapBytearray f) >>= fun _ => lookBehind a) _ _ _
  refine wpAny_bind (wpAny_update ho ?_)
  have hS₂ : (s.heap.update a (Obj.mapBytearray f)).get? a = some (baObj (f b)) := Heap.get?_update_self (Obj.mapBytearray f) ho rfl
  refine wpAny_lookBehind hS₂ ?_ (h _ hS₂ (Heap.SameBut.update ..))
  show (if (f b).size > sizeLine then some "bytearray:memory" else none) = none
  rw [if_neg (Nat.not_lt.mpr hz)]
theorem call_ba_append {Q : Value → Shared → Prop} {a : Addr} {b : Array UInt8} {n : Int} {t : Tok} (hg : A.guards = some []) (ho : s.heap.get? a = some (baObj b)) (hn : 0 ≤ n ∧ n < 256) (hz : b.size < sizeLine)
    (h : ∀ h', h'.get? a = some (baObj (b.push n.toNat.toUInt8)) → Heap.SameBut a s.heap h' → Q .none { s with heap := h' }) : wpC (model prog w) A (call (.builtin "bytearray.append") [.ref a, .int n t]) Q s := by
  refine wpC_call (codeC_call_builtin F.ba_plain_append F.ba_entry_append (by rfl) (F.ba_slot_append.check _ _ _ _ _ _ _ _ (typeIs_ba ho) (F.ba_args_append _ _) ?_))
  unfold Builtin.«bytearray.append»
  refine wpC_bindA (wpAny_of_eq (a := (Value.ref a, Value.int n t)) rfl ?_)
  refine wpC_bindA ?_
  show wpAny _ _ (Builtin.Bytes.byteValue (.int n t)) _ _ _
  unfold Builtin.Bytes.byteValue
  refine wpAny_bind (wpAny_of_eq (rfl : asIndex (.int n t) = pure n) ?_)
  refine bm_if_false (by simp only [Bool.or_eq_false_iff, decide_eq_false_iff_not]; omega) (wpAny_pure ?_)
  refine wpC_bind (checkResizeC hg ho rfl ?_)
  refine wpC_bindA (write_ba (f := (·.push n.toNat.toUInt8)) ho (by rw [Array.size_push]; exact hz) fun h' e1 e2 => ?_)
  exact wpC_pure (h h' e1 e2)
theorem take_eq {id : String} {b : Array UInt8} {t : Tok} : Builtin.Bytes.takeBuffer? id (.bytes b t) 0 = pure (some (b, none)) := by
  unfold Builtin.Bytes.takeBuffer?
  rw [KBy.special_eq KBy.look_buffer, KBy.own_buffer]
  show (Builtin.Bytes.buffer? id (.bytes b t) false >>= fun x => pure (x.map (·, none))) = _
  rw [KBy.buffer_eq]
  rfl
theorem takeQuiet_eq {id : String} {b : Array UInt8} {t : Tok} : Builtin.Bytes.takeBufferQuiet? id (.bytes b t) 0 = pure (some (b, none)) := by
  unfold Builtin.Bytes.takeBufferQuiet?
  rw [take_eq]
  rfl
theorem call_ba_extend {Q : Value → Shared → Prop} {a : Addr} {b c : Array UInt8} {t : Tok} (hg : A.guards = some []) (ho : s.heap.get? a = some (baObj b)) (hz : b.size + c.size ≤ sizeLine)
    (h : ∀ h', h'.get? a = some (baObj (b ++ c)) → Heap.SameBut a s.heap h' → Q .none { s with heap := h' }) : wpC (model prog w) A (call (.builtin "bytearray.extend") [.ref a, .bytes c t]) Q s := by
  refine wpC_call (codeC_call_builtin F.ba_plain_extend F.ba_entry_extend (by rfl) (F.ba_slot_extend.check _ _ _ _ _ _ _ _ (typeIs_ba ho) (F.ba_args_extend _ _) ?_))
  unfold Builtin.«bytearray.extend»
  refine wpC_bindA (wpAny_of_eq (a := (Value.ref a, Value.bytes c t)) rfl ?_)
  refine wpC_bindA (wpAny_of_eq (KBy.special_eq KBy.look_buffer) ?_)
  refine wpC_bindA (wpAny_rule ?_)
  refine wpC_bindA ?_
  unfold Builtin.Bytes.payload Builtin.Bytes.payload?
  refine wpAny_bind (wpAny_bind (wpAny_load ho ?_))
  refine wpAny_pure (wpAny_pure ?_)
  refine wpC_bindA (wpAny_of_eq takeQuiet_eq ?_)
  show wpC _ _ (do
    if !c.isEmpty then Builtin.Bytes.checkResize (.ref a)
    Builtin.Bytes.write (.ref a) (· ++ c)
    ret .none) _ _
  have fin : wpC (model prog w) A.in1 (do Builtin.Bytes.write (.ref a) (· ++ c); ret .none) (fun fin s' => match fin with | .done f => okV Q (.ok f) s' | .again c' => c'.quiet = true ∧ dec c' = false ∧ codeC (model prog w) A c' (okV Q) s') s :=
    wpC_bindA (write_ba (f := (· ++ c)) ho (by rw [Array.size_append]; exact hz) fun h' e1 e2 => wpC_pure (h h' e1 e2))
  cases hc : c.isEmpty with
  | true => exact fin
  | false => exact wpC_bind (checkResizeC hg ho rfl fin)
theorem new_ba {M : Model} {E : Value → Shared → Prop} {Q : Value → Shared → Prop} (h : ∀ h', h'.get? s.heap.objs.size = some (baObj #[]) → Kp s.heap h' → Q (.ref s.heap.objs.size) { s with heap := h' }) :
    codeAny (model prog w) A (.call (.builtin "bytearray.__new__") ⟨[.type "bytearray"], []⟩) (wants Q E) s := by
  refine codeAny_of_tree ?_
  show wpAny _ A.in1 (do checkBuiltinCall "bytearray.__new__" ⟨[.type "bytearray"], []⟩; again (.builtin "bytearray.__new__" ⟨[.type "bytearray"], []⟩)) _ _ s
  refine wpAny_bind (wpAny_of_eq F.ba_newCall (wpAny_pure ⟨plainId_quiet F.ba_plain_new _, codeAny_builtin_stack F.ba_entry_new rfl fun p st => ?_⟩))
  rw [Around.under_plainId F.ba_plain_new _]
  have hsub := F.ba_sub
  have hown := owner_ba_new
  obtain ⟨hp, g, d, tk, os⟩ := s
  simp only [hown]
  wp_walk
  exact h _ (Heap.get?_push_size _ rfl) (fun b o e => Heap.get?_push_of_some _ e)
theorem slotOwn_ba {M : Model} {E : Value → Shared → Prop} {a : Addr} {b : Array UInt8} {name : String} {id : String} {Q : Bool → Shared → Prop} (ho : s.heap.get? a = some (baObj b))
    (hl : typeLookup (.type "bytearray") name = pure (some (.builtin id))) (h1 : id.endsWith ("." ++ name) = true) (h2 : id.dropRight (name.length + 1) = "bytearray") (h : Q true s) : wpAny M A (Builtin.Bytes.slotIsOwn (.ref a) name) Q E s := by
  unfold Builtin.Bytes.slotIsOwn
  refine wpAny_bind (wpAny_specialOf (typeIs_ba ho) hl ?_)
  dsimp only
  rw [h1, h2]
  exact wpAny_isInstance (typeIs_ba ho) F.ba_sub h
theorem ownRelease_ba {M : Model} {E : Value → Shared → Prop} {a : Addr} {b : Array UInt8} {Q : Bool → Shared → Prop} (ho : s.heap.get? a = some (baObj b)) (h : Q false s) : wpAny M A (Builtin.Bytes.ownRelease (.ref a)) Q E s := by
  unfold Builtin.Bytes.ownRelease
  exact wpAny_bind (slotOwn_ba ho F.ba_release (by decide +kernel) (by decide +kernel) (wpAny_pure h))
theorem payload_ba {M : Model} {E : Value → Shared → Prop} {a : Addr} {b : Array UInt8} {Q : Array UInt8 → Shared → Prop} (ho : s.heap.get? a = some (baObj b)) (h : Q b s) : wpAny M A (Builtin.Bytes.payload (.ref a)) Q E s := by
  unfold Builtin.Bytes.payload Builtin.Bytes.payload?
  exact wpAny_bind (wpAny_bind (wpAny_load ho (wpAny_pure (wpAny_pure h))))
theorem buffer_ba {M : Model} {E : Value → Shared → Prop} {a : Addr} {b : Array UInt8} {id : String} {full : Bool} {Q : Option (Array UInt8) → Shared → Prop} (ho : s.heap.get? a = some (baObj b)) (h : Q (some b) s) : wpAny M A (Builtin.Bytes.buffer? id (.ref a) full) Q E s := by
  unfold Builtin.Bytes.buffer?
  refine wpAny_bind (wpAny_specialOf (typeIs_ba ho) F.ba_buffer ?_)
  dsimp only
  refine wpAny_bind (slotOwn_ba ho F.ba_buffer (by decide +kernel) (by decide +kernel) ?_)
  refine bm_if_false rfl ?_
  refine wpAny_bind (wpAny_specialOf (typeIs_ba ho) F.ba_buffer ?_)
  refine wpAny_bind (ownRelease_ba ho ?_)
  refine bm_if_false rfl ?_
  exact wpAny_bind (payload_ba ho (wpAny_pure h))
theorem init_ba {Q : Value → Shared → Prop} {a : Addr} (hg : A.guards = some []) (ho : s.heap.get? a = some (baObj #[]))
    (h : ∀ h', h'.get? a = some (baObj #[]) → Heap.SameBut a s.heap h' → Q .none { s with heap := h' }) : wpC (model prog w) A (call (.builtin "bytearray.__init__") [.ref a]) Q s := by
  refine wpC_call (codeC_call_builtin F.ba_plain_init F.ba_entry_init (by rfl) (F.ba_slot_init.check _ _ _ _ _ _ _ _ (typeIs_ba ho) (F.ba_args_init _) ?_))
  unfold Builtin.«bytearray.__init__»
  refine wpC_bindA (ownRelease_ba ho ?_)
  show wpC _ _ (Builtin.Bytes.bindOptional "bytearray.__init__" "bytearray" ["source", "encoding", "errors"] [] [] >>= _) _ _
  refine wpC_bindA (wpAny_of_eq (F.ba_bind) ?_)
  refine wpC_bindA (wpAny_of_eq (a := ()) rfl ?_)
  refine wpC_bindA (wpAny_of_eq (a := ()) rfl ?_)
  refine wpC_bind ?_
  unfold orM
  refine wpC_bind (exportedC hg ?_)
  show wpC _ _ (Builtin.Bytes.exportsOf (.ref a) >>= _) _ _
  unfold Builtin.Bytes.exportsOf
  refine wpC_bindA (wpAny_bind (wpAny_load ho (wpAny_pure (wpC_pure ?_))))
  refine wpC_bindA (write_ba (f := fun _ => #[]) ho (Nat.zero_le _) fun h' e1 e2 => ?_)
  exact wpC_of (wpAny_bind (wpAny_of_eq (a := ()) rfl (wpAny_pure (h h' e1 e2))))
theorem wpC_if_false {α : Type} {M : Model} {c : Bool} {a b : Sem α} {Q : α → Shared → Prop} (hc : c = false) (h : wpC M A b Q s) : wpC M A (if c = true then a else b) Q s := by
  subst hc
  exact h
end
end Mine
end
section
open PySem PySem.W PyProof.Rows
set_option maxHeartbeats 4000000
namespace Mine
section
variable {prog : Program} {w : World} {A : Around} {s : Shared}
theorem call_bytearray {Q : Value → Shared → Prop} (hg : A.guards = some [])
    (h : ∀ a h', h'.get? a = some (baObj #[]) → s.heap.get? a = none → Kp s.heap h' → Q (.ref a) { s with heap := h' }) : wpC (model prog w) A (call (.type "bytearray") []) Q s := by
  refine wpC_call (codeC_of_tree ?_)
  show wpC _ _ (callAny (.type "bytearray") _) _ _
  refine wpC_pure ⟨Code.quiet_builtin _ (by decide +kernel), rfl, codeC_builtin PySem.F.entry_type_call ?_⟩
  rw [Around.under_plain (weight_type_call_type "bytearray" [] []) rfl]
  unfold Builtin.«type.__call__»
  dsimp only
  refine wpC_if_false (by decide) ?_
  refine wpC_if_false F.ba_called.canCreate ?_
  with_reducible refine wpC_bindA (wpAny_of_eq F.ba_typeCall ?_)
  with_reducible refine wpC_bindA (wpAny_of_eq F.ba_mro ?_)
  refine wpC_if_false rfl ?_
  with_reducible refine wpC_bindA (wpAny_of_eq F.ba_called.made ?_)
  dsimp only
  with_reducible refine wpC_bindA (wpAny_pure ?_)
  with_reducible refine wpC_bindA (wpAny_holding (wpAny_call (codeAny_mono (new_ba (Q := fun v s' => v = .ref s.heap.objs.size ∧ ∃ h', s' = { s with heap := h' } ∧ h'.get? s.heap.objs.size = some (baObj #[]) ∧ Kp s.heap h') (M := model prog w) (E := Fa) fun h' e1 e2 => ⟨rfl, h', rfl, e1, e2⟩) fun r s' hr => ?_)))
  rcases r with e | f
  · exact hr
  cases f with
  | ret v =>
    obtain ⟨rfl, h', rfl, e1, e2⟩ := hr
    show wpC _ _ _ _ _
    with_reducible refine wpC_bindA (wpAny_isInstance (typeIs_ba (s := { s with heap := h' }) e1) F.ba_sub ?_)
    refine wpC_if_false rfl ?_
    with_reducible refine wpC_bind (wpC_holding ?_)
    unfold callSpecial?
    with_reducible refine wpC_bindA (wpAny_specialOf (typeIs_ba (s := { s with heap := h' }) e1) F.ba_slot_init.lookup ?_)
    dsimp only
    with_reducible refine wpC_holding (wpC_bindA (wpAny_of_eq (F.ba_slot_init.bind _) ?_))
    refine wpC_bind (init_ba (s := { s with heap := h' }) hg e1 fun h'' f1 f2 => wpC_pure ?_)
    dsimp only
    refine wpC_if_false (by decide) (wpC_pure ?_)
    have hn : s.heap.get? s.heap.objs.size = none := Heap.get?_none_of_le (Nat.le_refl _)
    refine h _ h'' f1 hn fun b o e => ?_
    exact f2.extBut b o (fun q => by rw [q, hn] at e; cases e) (e2 b o e)
  | _ => exact hr.elim
end
end Mine
end
section
open PySem PySem.W PyProof.Rows
set_option maxHeartbeats 4000000
namespace Mine
namespace F
theorem ba_no_bytes : typeLookup (.type "bytearray") "__bytes__" = pure none := by rw [typeLookup_type, builtinLookup_eq_fast]; kernel_rfl
theorem ba_no_index : typeLookup (.type "bytearray") "__index__" = pure none := by rw [typeLookup_type, builtinLookup_eq_fast]; kernel_rfl
end F
section
variable {prog : Program} {w : World} {A : Around} {E : Value → Shared → Prop} {s : Shared}
theorem new_bytes_ba {a : Addr} {b : Array UInt8} {Q : Value → Shared → Prop} (ho : s.heap.get? a = some (baObj b)) (hz : b.size ≤ sizeLine) (hQ : ∀ t k, Q (.bytes b t) { s with toks := k }) :
    codeAny (model prog w) A (.call (.builtin "bytes.__new__") ⟨[.type "bytes", .ref a], []⟩) (wants Q E) s := by
  refine codeAny_of_tree ?_
  show wpAny _ A.in1 (do checkBuiltinCall "bytes.__new__" ⟨[.type "bytes", .ref a], []⟩; again (.builtin "bytes.__new__" ⟨[.type "bytes", .ref a], []⟩)) _ _ s
  refine wpAny_bind (wpAny_of_eq (PySem.F.bm_newCall _) (wpAny_pure ⟨plainId_quiet PySem.F.bm_plain _, codeAny_builtin PySem.F.bm_entry ?_⟩))
  rw [Around.under_plainId PySem.F.bm_plain _]
  have hT : s.TypeIs (.ref a) "bytearray" := typeIs_ba ho
  unfold Builtin.«bytes.__new__»
  refine wpAny_bind (wpAny_of_eq (a := true) rfl ?_)
  refine bm_if_false rfl ?_
  refine wpAny_bind (wpAny_of_eq PySem.F.bm_sub ?_)
  refine bm_if_false rfl ?_
  refine wpAny_bind (wpAny_of_eq (PySem.F.bm_bind _) ?_)
  refine wpAny_bind (wpAny_of_eq (a := ()) rfl ?_)
  refine wpAny_bind (wpAny_of_eq (a := ()) rfl ?_)
  refine bm_if_false rfl ?_
  refine wpAny_bind (wpAny_specialOf hT F.ba_no_bytes ?_)
  refine wpAny_bind (wpAny_bind ?_)
  show wpAny _ _ (load a >>= _) _ _ _
  refine wpAny_bind (wpAny_load ho ?_)
  refine wpAny_pure (wpAny_pure ?_)
  refine bm_if_false rfl ?_
  refine wpAny_bind (wpAny_specialOf hT F.ba_no_index ?_)
  refine bm_if_true rfl ?_
  first
    | show wpAny _ _ (Builtin.Bytes.buffer? "bytes.__new__" (.ref a) true >>= _) _ _ _
    | (refine wpAny_bind ?_; show wpAny _ _ (Builtin.Bytes.buffer? "bytes.__new__" (.ref a) true >>= _) _ _ _)
  refine wpAny_bind (buffer_ba ho ?_)
  refine wpAny_bind (wpAny_rule ?_)
  refine wpAny_bind (wpAny_mkBytes ?_ hz)
  show wpAny _ _ (if (Value.type "bytes" == Value.type "bytes") = true then _ else _) _ _ _
  refine bm_if_true (by decide) ?_
  first
    | exact wpAny_pure (hQ _ _)
    | exact wpAny_bind (wpAny_pure (wpAny_pure (hQ _ _)))
theorem call_bytes_ba {a : Addr} {b : Array UInt8} {Q : Value → Shared → Prop} (ho : s.heap.get? a = some (baObj b)) (hz : b.size ≤ sizeLine) (hQ : ∀ t k, Q (.bytes b t) { s with toks := k }) :
    wpAny (model prog w) A (call (.type "bytes") [.ref a]) Q E s := by
  refine callType_codes (Q₁ := fun obj s₁ => s₁.TypeIs obj "bytes" ∧ Q obj s₁) PySem.F.bm_called (PySem.F.bm_typeCall _) PySem.F.entry_object_init
    (new_bytes_ba ho hz fun t k => ⟨PySem.W.typeIs_bytes _ _ _, hQ t k⟩) fun obj s₁ h₁ => ?_
  exact ⟨h₁.1, PySem.F.args_object_init_2 obj _, object_init_meets PySem.F.bm_called.init.lookup PySem.F.bm_called.made (by decide) prog w A.in1 _ s₁ ⟨h₁.1, rfl, h₁.2⟩⟩
end
end Mine
end
section
namespace Mine
theorem fillit : PySem.Challenge.rw_nq0278_01 = PySem.Challenge.rw_nq0278_01 ∧ hd.heap_1 = hd.heap_1 := by k_fill; exact ⟨rfl, rfl⟩
/-- a goal at which the walk is to stop: the next step is taken by hand -/
noncomputable def Held (P : Prop) : Prop := P
theorem held {P : Prop} (h : Held P) : P := h
theorem ite_F {A B : Prop} (h : B) : if (false = true) then A else B := h
theorem ite_T {A B : Prop} (h : A) : if (true = true) then A else B := h
/-- a value but for its mark -/
inductive V0 where
  | int (i : Int) | str (s : Str) | bytes (b : Array UInt8) | val (v : Value)
noncomputable def V0.mk (t : Tok) : V0 → Value
  | .int i => .int i t
  | .str s => .str s t
  | .bytes b => .bytes b t
  | .val v => v
/-- the frame's names by their values -/
noncomputable def nm (u : Str → Option Value) (τ : Str → Tok) : List (Str × V0) → Str → Option Value
  | [] => u
  | p :: r => fun y => if y = p.1 then some (p.2.mk (τ p.1)) else nm u τ r y
/-- the names that are known -/
noncomputable def Known (m : Str → Option Value) (ps : List (Str × V0)) : Prop := ∀ p ∈ ps, ∃ t, m p.1 = some (p.2.mk t)
theorem Known.nil {m : Str → Option Value} : Known m [] := fun _ h => nomatch h
theorem Known.cons {m : Str → Option Value} {x : Str} {v : V0} {r : List (Str × V0)} {t : Tok} (e : m x = some (v.mk t)) (h : Known m r) : Known m ((x, v) :: r) := fun p hp => by
  rcases List.mem_cons.mp hp with rfl | hp
  · exact ⟨t, e⟩
  · exact h p hp
theorem Known.int {m : Str → Option Value} {x : Str} {i j : Int} {r : List (Str × V0)} {t : Tok} (e : m x = some (.int j t)) (h : j = i) (k : Known m r) : Known m ((x, .int i) :: r) := Known.cons (t := t) (by rw [e, h]; rfl) k
theorem Known.str {m : Str → Option Value} {x : Str} {i j : Str} {r : List (Str × V0)} {t : Tok} (e : m x = some (.str j t)) (h : j = i) (k : Known m r) : Known m ((x, .str i) :: r) := Known.cons (t := t) (by rw [e, h]; rfl) k
theorem Known.bytes {m : Str → Option Value} {x : Str} {i j : Array UInt8} {r : List (Str × V0)} {t : Tok} (e : m x = some (.bytes j t)) (h : j = i) (k : Known m r) : Known m ((x, .bytes i) :: r) := Known.cons (t := t) (by rw [e, h]; rfl) k
theorem Known.val {m : Str → Option Value} {x : Str} {i j : Value} {r : List (Str × V0)} (e : m x = some j) (h : j = i) (k : Known m r) : Known m ((x, .val i) :: r) := Known.cons (t := 0) (by rw [e, h]; rfl) k
noncomputable def tokOf : Option Value → Tok
  | some (.int _ t) | some (.str _ t) | some (.bytes _ t) => t
  | _ => 0
theorem Known.tok {m : Str → Option Value} {ps : List (Str × V0)} (h : Known m ps) : ∀ p ∈ ps, m p.1 = some (p.2.mk (tokOf (m p.1))) := fun p hp => by
  obtain ⟨t, ht⟩ := h p hp
  rw [ht]
  cases p.2 <;> rfl
theorem nm_eq {m : Str → Option Value} {τ : Str → Tok} : ∀ {ps : List (Str × V0)}, (∀ p ∈ ps, m p.1 = some (p.2.mk (τ p.1))) → nm m τ ps = m
  | [], _ => rfl
  | p :: r, h => by
    funext y
    show (if y = p.1 then some (p.2.mk (τ p.1)) else nm m τ r y) = m y
    rw [nm_eq fun q hq => h q (.tail _ hq)]
    split
    · rename_i e; rw [e]; exact (h p (.head _)).symm
    · rfl
theorem Fr.canon {h₀ h : Heap} {L : Addr} {m : Str → Option Value} {ps : List (Str × V0)} (F : Fr h₀ L h m) (k : Known m ps) : ∃ τ, Fr h₀ L h (nm m τ ps) := by
  exact ⟨fun x => tokOf (m x), by rw [nm_eq k.tok]; exact F⟩
section
variable {prog : Program} {w : World} {A : Around} {E : Value → Shared → Prop} {s : Shared} {env : Env} {h₀ : Heap} {L : Addr} {Q : Flow → Shared → Prop} {σ : Type}
/-- the end of a turn -/
noncomputable def End (h₀ : Heap) (L : Addr) (s : Shared) (Led : σ → List (Addr × Obj)) (ps : σ → List (Str × V0)) (P : σ → Prop) (s₂ : Shared) : Prop :=
  ∃ (c' : σ) (h' : Heap) (tk : Nat) (m' : Str → Option Value) (news' : List (Addr × Obj)), s₂ = { s with heap := h', toks := tk } ∧ Fr h₀ L h' m' ∧ News h₀ L h' news' ∧ (∀ p ∈ Led c', p ∈ news') ∧ Known m' (ps c') ∧ P c'
theorem End.intro {Led : σ → List (Addr × Obj)} {ps : σ → List (Str × V0)} {P : σ → Prop} {h' : Heap} {tk : Nat} {m' : Str → Option Value} {news' : List (Addr × Obj)} (c' : σ)
    (F : Fr h₀ L h' m') (N : News h₀ L h' news') (hl : ∀ p ∈ Led c', p ∈ news') (hk : Known m' (ps c')) (hp : P c') : End h₀ L s Led ps P { s with heap := h', toks := tk } := ⟨c', h', tk, m', news', rfl, F, N, hl, hk, hp⟩
noncomputable def Turn (h₀ : Heap) (L : Addr) (s : Shared) (Led : σ → List (Addr × Obj)) (ps : σ → List (Str × V0)) (P : σ → Prop) (Q : Flow → Shared → Prop) (f : Flow) (s₂ : Shared) : Prop :=
  match f with
  | .ret v => Q (.ret v) s₂
  | .brk => Q .next s₂
  | _ => End h₀ L s Led ps P s₂
theorem While_my {test : Expr} {body : List Stmt} {pos : Pos} {m₀ : Str → Option Value} (Led : σ → List (Addr × Obj)) (ps : σ → List (Str × V0)) (P : σ → Prop) (μ : σ → Nat) (c₀ : σ)
    (F : Fr h₀ L s.heap m₀) (N : News h₀ L s.heap (Led c₀)) (hk : Known m₀ (ps c₀)) (hp : P c₀)
    (turn : ∀ (c : σ) u τ h tk, P c → Fr h₀ L h (nm u τ (ps c)) → News h₀ L h (Led c) →
      wpAny (model prog w) A (isTrue test env (eval test env)) (fun b s₂ =>
        if b = true then wpAny (model prog w) A (execs body env) (Turn h₀ L s Led ps (fun c' => P c' ∧ μ c' < μ c) Q) Fa s₂ else Q .next s₂) Fa { s with heap := h, toks := tk }) :
    wpAny (model prog w) A (exec (.While test body [] pos) env) Q E s := by
  refine wpAny_mono (E := Fa) ?_ (fun _ _ h => h) (fun _ _ h => h.elim)
  refine While_inv2 (E := Fa) (fun n m nx => ∃ c : σ, nx = Led c ∧ μ c = n ∧ Known m (ps c) ∧ P c) F N ⟨c₀, rfl, rfl, hk, hp⟩ ?_ PassesOwn.never
  rintro n m₁ nx h tk F₁ N₁ ⟨c, hnx, hsz, hf', hp'⟩
  rw [hnx] at N₁
  obtain ⟨τ, F₂⟩ := Fr.canon F₁ hf'
  refine wpAny_mono (turn c m₁ τ h tk hp' F₂ N₁) (fun b s₂ p => ?_) fun _ _ x => x
  cases b with
  | false => simpa using p
  | true =>
    simp only [if_true] at p ⊢
    refine wpAny_mono p (fun f s₃ q => ?_) fun _ _ x => x
    cases f with
    | ret v => exact q
    | brk => exact q
    | next =>
      obtain ⟨c', h', tk', m', news', rfl, F', N', hn, hk9, hp9, hm9⟩ := q
      exact ⟨h', tk', m', Led c', μ c', rfl, F', fun p hp => N' p (hn p hp), hsz ▸ hm9, c', rfl, rfl, hk9, hp9⟩
    | cont =>
      obtain ⟨c', h', tk', m', news', rfl, F', N', hn, hk9, hp9, hm9⟩ := q
      exact ⟨h', tk', m', Led c', μ c', rfl, F', fun p hp => N' p (hn p hp), hsz ▸ hm9, c', rfl, rfl, hk9, hp9⟩
theorem execs_app_wp {M : Model} {Γ : Ctx} {l₂ : List Stmt} {Q' : Flow → Pos → Shared → Prop} {E' : Value → Pos → Shared → Prop} : ∀ (l₁ : List Stmt) (p : Pos) (s : Shared),
    Sem.wp M Γ (execs l₁ env) (fun f p' s' => match f with | .next => Sem.wp M Γ (execs l₂ env) Q' E' p' s' | f => Q' f p' s') E' p s → Sem.wp M Γ (execs (l₁ ++ l₂) env) Q' E' p s
  | [], p, s, h => h
  | st :: r, p, s, h => by
    rw [execs_cons, Sem.wp_bind'] at h
    rw [List.cons_append, execs_cons, Sem.wp_bind']
    refine Sem.wp_mono M Γ _ (fun f p' s' h' => ?_) (fun _ _ _ h' => h') p s h
    cases f with
    | next => exact execs_app_wp r p' s' h'
    | _ => exact h'
/-- some statements, then the others -/
theorem execs_app {l₁ l₂ : List Stmt} (R : Shared → Prop)
    (h : wpAny (model prog w) A (execs l₁ env) (fun f s' => match f with | .next => R s' | f => Q f s') E s) (h2 : ∀ s', R s' → wpAny (model prog w) A (execs l₂ env) Q E s') : wpAny (model prog w) A (execs (l₁ ++ l₂) env) Q E s := fun Γ p hΓ => by
  refine execs_app_wp l₁ p s (Sem.wp_mono _ Γ _ (fun f p' s' h' => ?_) (fun _ _ _ h' => h') p s (h Γ p hΓ))
  cases f with
  | next => exact h2 s' h' Γ p' hΓ
  | _ => exact h'
theorem execs_at (n : Nat) (R : Shared → Prop) {l : List Stmt}
    (h : wpAny (model prog w) A (execs (l.take n) env) (fun f s' => match f with | .next => R s' | f => Q f s') E s) (h2 : ∀ s', R s' → wpAny (model prog w) A (execs (l.drop n) env) Q E s') : wpAny (model prog w) A (execs l env) Q E s := by
  have := execs_app (l₁ := l.take n) (l₂ := l.drop n) R h h2
  rwa [List.take_append_drop] at this
end
end Mine
end
local macro_rules | `(tactic| walk_at "ite") => `(tactic| first | refine Mine.ite_F ?_ | refine Mine.ite_T ?_)
section
namespace Mine
section
variable {prog : Program} {w : World} {A : Around} {s : Shared} {env : Env}
/-- the callee's keeper is one that the machine or a frame holds -/
noncomputable def Kept (f : Value) (s : Shared) : Prop := ∀ (M : Model), ∃ k, (k = Keeper.frame ∨ k = Keeper.machine ∨ k = Keeper.boundFrame) ∧ Looks M s.heap (keeperOf f) k
/-- behind the arguments: the call, in clean contexts -/
noncomputable def ArgsC (M : Model) (A : Around) (f : Value) (first : List Value) (Q : Value → Shared → Prop) (vs : List Value) (s : Shared) : Prop := Kept f s ∧ wpC M A (call f (first ++ vs)) Q s
theorem Kept.type {T : String} {s : Shared} : Kept (.type T) s := fun _ => ⟨.machine, .inr (.inl rfl), .now⟩
theorem Kept.builtin {T : String} {s : Shared} : Kept (.builtin T) s := fun _ => ⟨.machine, .inr (.inl rfl), .now⟩
theorem Kept.fn {K : Frag} {f : Value} {s : Shared} (X : K.In s.heap) (hk : keepIn K f = true) : Kept f s := fun _ => keeps_K hk _ X
theorem callWithC {pos : Pos} {f : Value} {first : List Value} {args : List (Bool × Sem Value)} {Q : Value → Shared → Prop} (hplain : args.any (·.1) = false)
    (h : wpAny (model prog w) A (evalArgs f true args []) (fun a s₁ => a.kw = [] ∧ ArgsC (model prog w) A f first Q a.pos s₁) Fa s) : wpC (model prog w) A (callWith pos f first args []) Q s := by
  unfold callWith
  refine wpC_bind (wpC_holding (wpC_of (wpAny_mono h (fun a s₁ h₁ => wpC_bindA (wpAny_standAt ?_)) fun _ _ x => x)))
  obtain ⟨hkw, hk, hc⟩ := h₁
  obtain ⟨k, hk', L⟩ := hk (model prog w)
  simp only [hplain, List.any_nil, Bool.or_false, hkw]
  refine wpC_bindA (L.here ?_)
  have tail : ∀ {t : Sem Value}, wpC (model prog w) A t Q s₁ → wpC (model prog w) A (t >>= fun r => holding [r] point >>= fun _ => pure r) Q s₁ :=
    fun ht => wpC_bind (wpC_mono ht (fun r s₂ hr => wpC_bindA (wpAny_holding (wpAny_point (wpC_pure hr)))))
  have marked (mk : Value) : wpC (model prog w) A (callMarked mk f (first ++ a.pos) []) Q s₁ := by unfold callMarked; exact wpC_keep hc
  rcases hk' with rfl | rfl | rfl <;> dsimp only <;> first | exact tail hc | (split <;> first | exact tail hc | exact tail (marked _))
theorem wpC_CallName {fx : Str} {fpos pos : Pos} {e : Expr} {rest : List Expr} {Q : Value → Shared → Prop}
    (h : wpAny (model prog w) A (eval (.Name fx fpos) env) (fun f s₁ => wpAny (model prog w) A (spliced (backTo pos (starEach (e :: rest) env))) (ArgsC (model prog w) A f [] Q) Fa s₁) Fa s)
    (he : eval (.Call (.Name fx fpos) (e :: rest) [] pos) env = (do callWith pos (← eval (.Name fx fpos) env) [] (backTo pos (starEach (e :: rest) env)) (backToKw pos (keywordEach [] env))) := by rfl)
    (hs : starEach (e :: rest) env = (false, eval e env) :: starEach rest env := by rfl) (hplain : (backTo pos (starEach rest env)).any (·.1) = false := by rfl) :
    wpC (model prog w) A (eval (.Call (.Name fx fpos) (e :: rest) [] pos) env) Q s := by
  rw [he]
  refine wpC_bindA (wpAny_mono h (fun f s₁ h₁ => ?_) fun _ _ x => x)
  rw [hs] at h₁ ⊢
  exact callWithC (by show (false || (backTo pos (starEach rest env)).any (·.1)) = false; rw [hplain]; rfl) (evalArgs_plain (wpAny_mono h₁ (fun vs s₂ h₂ => ⟨rfl, h₂⟩) fun _ _ x => x))
theorem wpC_CallName0 {fx : Str} {fpos pos : Pos} {Q : Value → Shared → Prop}
    (h : wpAny (model prog w) A (eval (.Name fx fpos) env) (fun f s₁ => ArgsC (model prog w) A f [] Q [] s₁) Fa s)
    (he : eval (.Call (.Name fx fpos) [] [] pos) env = (do callWith pos (← eval (.Name fx fpos) env) [] (backTo pos (starEach [] env)) (backToKw pos (keywordEach [] env))) := by rfl) :
    wpC (model prog w) A (eval (.Call (.Name fx fpos) [] [] pos) env) Q s := by
  rw [he]
  refine wpC_bindA (wpAny_mono h (fun f s₁ h₁ => ?_) fun _ _ x => x)
  exact callWithC rfl (evalArgs_nil3 ⟨rfl, h₁⟩)
theorem wpC_CallMeth {o : Expr} {name : Str} {apos pos : Pos} {e : Expr} {rest : List Expr} {pl : Sem Bool} {Q : Value → Shared → Prop}
    (h : wpAny (model prog w) A (eval o env) (fun ov s₁ => wpAny (model prog w) A (getMethod ov name pl) (fun fx s₂ => wpAny (model prog w) A (spliced (backTo pos (starEach (e :: rest) env))) (ArgsC (model prog w) A fx.1 fx.2 Q) Fa s₂) Fa s₁) Fa s)
    (he : eval (.Call (.Attribute o name apos) (e :: rest) [] pos) env = (do
      let ov ← eval o env
      standAt apos.atName
      let (f, first) ← holding [ov] (getMethod ov name pl)
      callWith pos f first (backTo pos (starEach (e :: rest) env)) []) := by rfl)
    (hs : starEach (e :: rest) env = (false, eval e env) :: starEach rest env := by rfl) (hplain : (backTo pos (starEach rest env)).any (·.1) = false := by rfl) :
    wpC (model prog w) A (eval (.Call (.Attribute o name apos) (e :: rest) [] pos) env) Q s := by
  rw [he]
  refine wpC_bindA (wpAny_mono h (fun ov s₁ h₁ => wpC_bindA (wpAny_standAt (wpC_bindA (wpAny_holding (wpAny_mono h₁ (fun fx s₂ h₂ => ?_) fun _ _ x => x))))) fun _ _ x => x)
  obtain ⟨f, first⟩ := fx
  dsimp only at h₂ ⊢
  rw [hs] at h₂ ⊢
  exact callWithC (by show (false || (backTo pos (starEach rest env)).any (·.1)) = false; rw [hplain]; rfl) (evalArgs_plain (wpAny_mono h₂ (fun vs s₃ h₃ => ⟨rfl, h₃⟩) fun _ _ x => x))
theorem getMethod_ba_append {E : Value → Shared → Prop} {a : Addr} {b : Array UInt8} {pl : Sem Bool} {Q : Value × List Value → Shared → Prop} (ho : s.heap.get? a = some (baObj b)) (h : Q (.builtin "bytearray.append", [.ref a]) s) :
    wpAny (model prog w) A (getMethod (.ref a) (Str.ofString "append") pl) Q E s :=
  getMethod_builtin (typeIs_ba ho) F.ba_plainAttrs F.ba_slot_append F.ba_ty_append (fun a' e => by cases e; exact ⟨_, ho, rfl⟩) h
theorem getMethod_ba_extend {E : Value → Shared → Prop} {a : Addr} {b : Array UInt8} {pl : Sem Bool} {Q : Value × List Value → Shared → Prop} (ho : s.heap.get? a = some (baObj b)) (h : Q (.builtin "bytearray.extend", [.ref a]) s) :
    wpAny (model prog w) A (getMethod (.ref a) (Str.ofString "extend") pl) Q E s :=
  getMethod_builtin (typeIs_ba ho) F.ba_plainAttrs F.ba_slot_extend F.ba_ty_extend (fun a' e => by cases e; exact ⟨_, ho, rfl⟩) h
end
end Mine
end
section
theorem Mine.anewFa : True := by w_top off; trivial
namespace Mine
noncomputable def Tn (j b : Nat) : Nat := max 1 (min 26 (36 * (j + 1) - b))
theorem Tn_bounds (j b : Nat) : 1 ≤ Tn j b ∧ Tn j b ≤ 26 := ⟨Nat.le_max_left _ _, Nat.max_le.mpr ⟨by decide, Nat.min_le_left _ _⟩⟩
theorem Tn_hi {j b : Nat} {X : Int} (e : X = 36 * ((j : Int) + 1) - b) (h : 26 ≤ X) : (26 : Int) = ((Tn j b : Nat) : Int) := by
  have h : 26 ≤ 36 * (j + 1) - b := by omega
  unfold Tn; rw [Nat.min_eq_left h]; rfl
theorem Tn_lo {j b : Nat} {X : Int} (e : X = 36 * ((j : Int) + 1) - b) (h : X ≤ 1) : (1 : Int) = ((Tn j b : Nat) : Int) := by
  have h : 36 * (j + 1) - b ≤ 1 := by omega
  unfold Tn; rw [Nat.max_eq_left (Nat.le_trans (Nat.min_le_right _ _) h)]; rfl
theorem Tn_mid {j b : Nat} {X : Int} (e : X = 36 * ((j : Int) + 1) - b) (h : 1 ≤ X) (h2 : X ≤ 26) : X = ((Tn j b : Nat) : Int) := by
  obtain ⟨n, rfl⟩ := Int.eq_ofNat_of_zero_le (Int.le_trans (by decide) h)
  have hn : 36 * (j + 1) - b = n := by omega
  unfold Tn; rw [hn, Nat.min_eq_right (Int.ofNat_le.mp h2), Nat.max_eq_right (Int.ofNat_le.mp h)]
theorem pos36 {T : Nat} (h : 1 ≤ T ∧ T ≤ 26) : 0 < 36 - T := Nat.sub_pos_of_lt (Nat.lt_of_le_of_lt h.2 (by decide))
theorem two36 {T : Nat} (h : 1 ≤ T ∧ T ≤ 26) : 2 ≤ 36 - T := Nat.le_sub_of_add_le (Nat.le_trans (Nat.add_le_add_left h.2 2) (by decide))
theorem fig {T m : Nat} (hm : m < 36 - T) : T + m < 36 := Nat.add_comm m T ▸ Nat.add_lt_of_lt_sub hm
theorem sub36 {T : Nat} (h : 1 ≤ T ∧ T ≤ 26) : (36 : Int) - (T : Int) = ((36 - T : Nat) : Int) := (Int.ofNat_sub (Nat.le_trans h.2 (by decide))).symm
theorem lt62 {a b : Nat} (ha : a < 2 ^ 60) (hb : b < 2 ^ 60) : a + b < 2 ^ 62 := Nat.lt_trans (Nat.add_lt_add ha hb) (by decide)
theorem T_spec {prog : Program} {w : World} {A : Around} {s : Shared} {p : Program} {loose : List Str} {mean : ExcName → Option Value} {mg mb : Str → Option Value} {Q E : Value → Shared → Prop}
    (X : (hd.heap_1 w.params).In s.heap) (T : Top p loose mean mg mb s.heap) (hdp : A.depth + 0 < recursionLimit) (hh : A.handled = none)
    {j b : Nat} {u v : Tok} 
    (ret : ∀ n t h' tk', n = ((Tn j b : Nat) : Int) → Kp s.heap h' → Q (.int n t) { s with heap := h', toks := tk' }) :
    wpAny (model prog w) A (call (.ref 175) [.int j u, .int b v]) Q E s := by
  k_dflt (refine' enter ([(Str.ofString "j", .int j u), (Str.ofString "bias", .int b v)]) X T (Ent.self _) ?k1 ?k2 (Nat.lt_of_le_of_lt (Nat.le_add_right _ _) hdp) ?k3 ?k4 ?k5 ?_ ?c1 ?c2 ?c3 ?c4; (case k1 => k_is); (case k2 => k_is); (case k3 => exact BindsTo.of_eq rfl); (case k4 => exact locs rfl); (case k5 => (dsimp only [List.map]; decide)); (case c1 => exact rfl); (case c2 => exact rfl); (case c3 => exact rfl); (case c4 => decide))
  intro L' h' u' tk' F' N'
  (try dsimp only)
  dsimp only [kstB] at F'
  refine wpAny_mono (E := Fa) ?_ (fun _ _ x => x) (fun _ _ x => x.elim)
  k_steps
  all_goals (dsimp only; refine ret _ _ _ _ ?_ (Fr.keep (by assumption)))
  all_goals first | exact Tn_lo rfl (Int.le_of_lt (by assumption)) | exact Tn_hi rfl (Int.le_of_lt (by assumption)) | exact Tn_mid rfl (Int.not_lt.mp (by assumption)) (Int.not_lt.mp (by assumption))
theorem fdivN (m n : Nat) : Int.fdiv (m : Int) (n : Int) = ((m / n : Nat) : Int) := by
  rw [Int.fdiv_eq_ediv_of_nonneg _ (Int.natCast_nonneg n)]; exact (Int.natCast_ediv m n).symm
theorem fmodN (m n : Nat) : Int.fmod (m : Int) (n : Int) = ((m % n : Nat) : Int) := by
  rw [Int.fmod_eq_emod_of_nonneg _ (Int.natCast_nonneg n)]; exact (Int.natCast_emod m n).symm
theorem div_lt_of {a b c : Nat} (h : a < c) : a / b < c := Nat.lt_of_le_of_lt (Nat.div_le_self _ _) h
theorem ad_step {x y : Nat} (h : 455 < x) : y + 36 + x / 35 ≤ y + x := by omega
/-- the loop of adapt -/
noncomputable def adaptL (d v : Nat) : Nat := if d > 455 then adaptL (d / 35) (v + 36) else v + 36 * d / (d + 38)
termination_by d
decreasing_by exact Nat.div_lt_self (Nat.zero_lt_of_lt (by assumption)) (by decide)
noncomputable def adaptN (d : Nat) (first : Bool) (n : Nat) : Nat :=
  let d := if first then d / 700 else d / 2
  adaptL (d + d / n) 0
theorem adapt_spec {prog : Program} {w : World} {A : Around} {s : Shared} {p : Program} {loose : List Str} {mean : ExcName → Option Value} {mg mb : Str → Option Value} {Q E : Value → Shared → Prop}
    (X : (hd.heap_1 w.params).In s.heap) (T : Top p loose mean mg mb s.heap) (hdp : A.depth + 0 < recursionLimit) (hh : A.handled = none)
    {d n : Nat} {b : Bool} {u v : Tok} (hd : d < 2 ^ 60) (hn : 0 < n ∧ n < 1000000)
    (ret : ∀ r t h' tk', r = ((adaptN d b n : Nat) : Int) → Kp s.heap h' → Q (.int r t) { s with heap := h', toks := tk' }) :
    wpAny (model prog w) A (call (.ref 189) [.int d u, .bool b, .int n v]) Q E s := by
  k_dflt (refine' enter ([(Str.ofString "delta", .int d u), (Str.ofString "first", .bool b), (Str.ofString "numchars", .int n v)]) X T (Ent.self _) ?k1 ?k2 (Nat.lt_of_le_of_lt (Nat.le_add_right _ _) hdp) ?k3 ?k4 ?k5 ?_ ?c1 ?c2 ?c3 ?c4; (case k1 => k_is); (case k2 => k_is); (case k3 => exact BindsTo.of_eq rfl); (case k4 => exact locs rfl); (case k5 => (dsimp only [List.map]; decide)); (case c1 => exact rfl); (case c2 => exact rfl); (case c3 => exact rfl); (case c4 => decide))
  intro L' h' u' tk' F' N'
  (try dsimp only)
  dsimp only [kstB] at F'
  refine wpAny_mono (E := Fa) ?_ (fun _ _ x => x) (fun _ _ x => x.elim)
  refine execs_at 3 (End s.heap L' s (fun _ => []) (fun x : Nat => [(Str.ofString "delta", .int x), (Str.ofString "divisions", .int 0)]) (fun x => adaptN d b n = adaptL x 0 ∧ x < 2 ^ 62)) ?_ ?_
  · dsimp only [List.take]
    k_steps
    all_goals (dsimp only; refine End.intro ((if b then d / 700 else d / 2) + (if b then d / 700 else d / 2) / n) (by assumption) (by assumption) (fun _ h => nomatch h) (Known.int (by with_unfolding_all rfl) ?_ (Known.int (by with_unfolding_all rfl) rfl Known.nil)) ⟨rfl, ?_⟩)
    all_goals simp only [*, if_true, if_false, Bool.false_eq_true]
    · rw [show (700 : Int) = ((700 : Nat) : Int) from rfl, fdivN, fdivN]; rfl
    · exact lt62 (div_lt_of hd) (div_lt_of (div_lt_of hd))
    · rw [show (2 : Int) = ((2 : Nat) : Int) from rfl, fdivN, fdivN]; rfl
    · exact lt62 (div_lt_of hd) (div_lt_of (div_lt_of hd))
  · rintro _ ⟨x, h, tk, m, news, rfl, F, N, -, hk, hx, hx2⟩
    obtain ⟨τ, F⟩ := Fr.canon F hk
    dsimp only [List.drop]
    refine wpAny_execs_cons (While_my (fun _ => []) (fun x : Nat × Nat => [(Str.ofString "delta", .int x.1), (Str.ofString "divisions", .int x.2)]) (fun x => adaptN d b n = adaptL x.1 x.2 ∧ x.1 < 2 ^ 62 ∧ x.2 + x.1 < 2 ^ 62) (fun x => x.1) (x, 0) F News.nil ?_ ?_ ?_)
    · exact Known.int (by with_unfolding_all rfl) rfl (Known.int (by with_unfolding_all rfl) rfl Known.nil)
    · exact ⟨hx, hx2, Nat.lt_of_le_of_lt (Nat.le_of_eq (Nat.zero_add _)) hx2⟩
    · rintro ⟨x, y⟩ u τ h tk ⟨h1, h2, h3⟩ F' N'
      dsimp only [nm, V0.mk] at F'
      dsimp only at h1 h2 h3 ⊢
      k_steps
      · dsimp only
        refine End.intro (x / 35, y + 36) (by assumption) (by assumption) (fun _ h => nomatch h) (Known.int (by with_unfolding_all rfl) ?_ (Known.int (by with_unfolding_all rfl) ?_ Known.nil)) ⟨⟨?_, ?_, ?_⟩, ?_⟩
        · rw [show (35 : Int) = ((35 : Nat) : Int) from rfl, fdivN]
        · rfl
        · rw [h1, adaptL, if_pos (Int.ofNat_lt.mp (by assumption))]
        · exact div_lt_of h2
        · exact Nat.lt_of_le_of_lt (ad_step (Int.ofNat_lt.mp (by assumption))) h3
        · exact Nat.div_lt_self (Nat.zero_lt_of_lt (Int.ofNat_lt.mp (by assumption))) (by decide)
      · dsimp only
        refine ret _ _ _ _ ?_ (Fr.keep (by assumption))
        rw [h1, adaptL, if_neg fun h => absurd (Int.ofNat_lt.mpr h) (by assumption)]
        exact congrArg ((y : Int) + ·) (fdivN (36 * x) (x + 38))
theorem adapt_at {prog : Program} {w : World} {A : Around} {s : Shared} {p : Program} {loose : List Str} {mean : ExcName → Option Value} {mg mb : Str → Option Value} {Q E : Value → Shared → Prop}
    (X : (hd.heap_1 w.params).In s.heap) (T : Top p loose mean mg mb s.heap) (hdp : A.depth + 0 < recursionLimit) (hh : A.handled = none)
    {d n : Nat} {x y : Int} {b : Bool} {u v : Tok} (ex : x = (d : Int)) (ey : y = (n : Int)) (hd : d < 2 ^ 60) (hn : 0 < n ∧ n < 1000000)
    (ret : ∀ r t h' tk', r = ((adaptN d b n : Nat) : Int) → Kp s.heap h' → Q (.int r t) { s with heap := h', toks := tk' }) :
    wpAny (model prog w) A (call (.ref 189) [.int x u, .bool b, .int y v]) Q E s := by subst ex ey; exact adapt_spec X T hdp hh hd hn ret
end Mine
end
section
local macro_rules | `(tactic| walk_at "getMethod ref") => `(tactic| (k_here; first | k_dflt (refine Mine.getMethod_ba_append (News.get (by assumption) (by k_mem)) ?_) | k_dflt (refine Mine.getMethod_ba_extend (News.get (by assumption) (by k_mem)) ?_)))
local macro_rules | `(tactic| walk_at "call type:bytes") => `(tactic| (k_here; (with_reducible show wpAny _ _ (call (Value.type "bytes") [Value.ref _]) _ _ _); (refine Mine.call_bytes_ba (News.get (by assumption) (by k_mem)) ?z ?_); (case z => assumption); intro t' tk'))
section
theorem Mine.anewGa : True := by w_top off; trivial
namespace Mine
theorem Fr.kp {h₀ h h' : Heap} {L : Addr} {m : Str → Option Value} (F : Fr h₀ L h m) (k : Kp h h') : Fr h₀ L h' m := ⟨let ⟨o, es, n, ho, r⟩ := F.ns; ⟨o, es, n, k _ _ ho, r⟩, fun b o e => k b o (F.keep b o e), F.above⟩
theorem News.kp {h₀ h h' : Heap} {L : Addr} {news : List (Addr × Obj)} (N : News h₀ L h news) (k : Kp h h') : News h₀ L h' news := fun p hp => ⟨k _ _ (N p hp).1, (N p hp).2⟩
theorem Fr.other {h₀ h h' : Heap} {L a : Addr} {m : Str → Option Value} {news : List (Addr × Obj)} {o : Obj} (F : Fr h₀ L h m) (N : News h₀ L h news) (hm : (a, o) ∈ news) (k : Heap.SameBut a h h') : Fr h₀ L h' m :=
  ⟨let ⟨o', es, n, ho, r⟩ := F.ns; ⟨o', es, n, k.extBut _ _ (fun e => (N _ hm).2.1 e.symm) ho, r⟩, fun b o' e => k.extBut b o' (fun q => by have := (N _ hm).2.2; dsimp only at this; rw [← q, e] at this; cases this) (F.keep b o' e), F.above⟩
theorem News.upd {h₀ h h' : Heap} {L a : Addr} {o o' : Obj} {news news' : List (Addr × Obj)} (N : News h₀ L h news) (U : Upd a o o' news news') (e : h'.get? a = some o') (k : Heap.SameBut a h h') : News h₀ L h' news' := by
  obtain ⟨pre, post, rfl, rfl, h1, h2⟩ := U.split
  intro p hp
  have old : ∀ q ∈ pre ++ (a, o) :: post, q.1 ≠ a → h'.get? q.1 = some q.2 ∧ q.1 ≠ L ∧ h₀.get? q.1 = none := fun q hq hn => ⟨k.extBut _ _ hn (N q hq).1, (N q hq).2⟩
  rcases List.mem_append.mp hp with hp | hp
  · exact old p (List.mem_append_left _ hp) (h1 p hp)
  · rcases List.mem_cons.mp hp with rfl | hp
    · exact ⟨e, (N (a, o) (List.mem_append_right _ (.head _))).2⟩
    · exact old p (List.mem_append_right _ (.tail _ hp)) (h2 p hp)
theorem News.new {h₀ h h' : Heap} {L a : Addr} {m : Str → Option Value} {o : Obj} {news : List (Addr × Obj)} (F : Fr h₀ L h m) (N : News h₀ L h news) (hn : h.get? a = none) (e : h'.get? a = some o) (k : Kp h h') : News h₀ L h' ((a, o) :: news) := fun p hp => by
  rcases List.mem_cons.mp hp with rfl | hp
  · refine ⟨e, fun q => ?_, ?_⟩
    · obtain ⟨o', es, n, ho, r⟩ := F.ns
      dsimp only at q; rw [q, ho] at hn; cases hn
    · cases hx : h₀.get? a with
      | none => rfl
      | some o' => rw [F.keep a o' hx] at hn; cases hn
  · exact News.kp N k p hp
theorem News.fresh {h₀ h : Heap} {L a : Addr} {o : Obj} {news : List (Addr × Obj)} (N : News h₀ L h news) (hm : (a, o) ∈ news) : h₀.get? a = none := (N _ hm).2.2
theorem News.get {h₀ h : Heap} {L a : Addr} {o : Obj} {news : List (Addr × Obj)} (N : News h₀ L h news) (hm : (a, o) ∈ news) : h.get? a = some o := (N _ hm).1
section
variable {prog : Program} {w : World} {A : Around} {s : Shared} {env : Env} {h₀ : Heap} {L : Addr} {Q : Flow → Shared → Prop} {σ : Type}
theorem WhileC_my {test : Expr} {body : List Stmt} {pos : Pos} {m₀ : Str → Option Value} (Led : σ → List (Addr × Obj)) (ps : σ → List (Str × V0)) (P : σ → Prop) (μ : σ → Nat) (c₀ : σ)
    (F : Fr h₀ L s.heap m₀) (N : News h₀ L s.heap (Led c₀)) (hk : Known m₀ (ps c₀)) (hp : P c₀)
    (turn : ∀ (c : σ) u τ h tk, P c → Fr h₀ L h (nm u τ (ps c)) → News h₀ L h (Led c) →
      wpAny (model prog w) A (isTrue test env (eval test env)) (fun b s₂ =>
        if b = true then wpC (model prog w) A (execs body env) (Turn h₀ L s Led ps (fun c' => P c' ∧ μ c' < μ c) Q) s₂ else Q .next s₂) Fa { s with heap := h, toks := tk }) :
    wpC (model prog w) A (exec (.While test body [] pos) env) Q s := by
  refine wpC_While (codeC_while (fun n s' => ∃ c h tk m, s' = { s with heap := h, toks := tk } ∧ Fr h₀ L h m ∧ News h₀ L h (Led c) ∧ Known m (ps c) ∧ P c ∧ μ c = n) ?_ (μ c₀) ⟨c₀, _, _, m₀, rfl, F, N, hk, hp, rfl⟩)
  rintro n s' ⟨c, h, tk, m, rfl, F₁, N₁, hk₁, hp₁, hn⟩
  obtain ⟨τ, F₂⟩ := Fr.canon F₁ hk₁
  refine wpAny_mono (turn c m τ h tk hp₁ F₂ N₁) (fun b s₂ p => ?_) fun _ _ x => x
  cases b with
  | false =>
    simp only [Bool.false_eq_true, if_false] at p ⊢
    exact wpC_execs_nil p
  | true =>
    simp only [if_true] at p ⊢
    refine wpC_mono p fun f s₃ q => ?_
    cases f with
    | ret v => exact q
    | brk => exact q
    | next =>
      obtain ⟨c', h', tk', m', news', rfl, F', N', hn', hk9, hp9, hm9⟩ := q
      exact ⟨μ c', hn ▸ hm9, c', h', tk', m', rfl, F', fun p hp => N' p (hn' p hp), hk9, hp9, rfl⟩
    | cont =>
      obtain ⟨c', h', tk', m', news', rfl, F', N', hn', hk9, hp9, hm9⟩ := q
      exact ⟨μ c', hn ▸ hm9, c', h', tk', m', rfl, F', fun p hp => N' p (hn' p hp), hk9, hp9, rfl⟩
end
/-- the figures of a number -/
noncomputable def ggi (b : Nat) (j N : Nat) : List Nat := if N < Tn j b then [N] else (Tn j b + (N - Tn j b) % (36 - Tn j b)) :: ggi b (j + 1) ((N - Tn j b) / (36 - Tn j b))
termination_by N
decreasing_by
  have := Tn_bounds j b
  exact Nat.lt_of_le_of_lt (Nat.div_le_self _ _) (Nat.sub_lt (Nat.lt_of_lt_of_le this.1 (Nat.le_of_not_lt (by assumption))) this.1)
theorem ggi_len (b : Nat) : ∀ (k j N : Nat), N < 2 ^ k → (ggi b j N).length ≤ k + 1
  | 0, j, N, h => by
    have hT := Tn_bounds j b
    rw [ggi, if_pos (Nat.lt_of_lt_of_le h hT.1)]; exact Nat.le_refl 1
  | k + 1, j, N, h => by
    have hT := Tn_bounds j b
    rw [ggi]
    split
    · simp
    · rw [List.length_cons]
      have hk : (N - Tn j b) / (36 - Tn j b) < 2 ^ k := by
        refine (Nat.div_lt_iff_lt_mul (pos36 hT)).mpr (Nat.lt_of_lt_of_le (Nat.lt_of_le_of_lt (Nat.sub_le _ _) h) ?_)
        rw [Nat.pow_succ]
        exact Nat.mul_le_mul_left _ (two36 hT)
      exact Nat.succ_le_succ (ggi_len b k (j + 1) _ hk)
theorem ggi_one (b j N : Nat) : 1 ≤ (ggi b j N).length := by
  rw [ggi]; split <;> exact Nat.le_add_left 1 _
/-- a figure's octet -/
noncomputable def dig (n : Nat) : Nat := if n < 26 then 97 + n else 22 + n
noncomputable def digs (l : List Nat) : Array UInt8 := (l.map fun n => (dig n).toUInt8).toArray
theorem digs_push (l : List Nat) (n : Nat) : digs (l ++ [n]) = (digs l).push (dig n).toUInt8 := by simp [digs]
theorem digs_size (l : List Nat) : (digs l).size = l.length := by simp [digs]
theorem tbl_get : ∀ n < 36, (([97, 98, 99, 100, 101, 102, 103, 104, 105, 106, 107, 108, 109, 110, 111, 112, 113, 114, 115, 116, 117, 118, 119, 120, 121, 122, 48, 49, 50, 51, 52, 53, 54, 55, 56, 57] : List UInt8).getD n 0).toNat = dig n := by decide
theorem dig_lt {n : Nat} (h : n < 36) : dig n < 256 := by unfold dig; split <;> exact Nat.lt_trans (Nat.add_lt_add_left h _) (by decide)
theorem tbl_at {k : Int} {n : Nat} (e : k = (n : Int)) (h : n < 36) : (([97, 98, 99, 100, 101, 102, 103, 104, 105, 106, 107, 108, 109, 110, 111, 112, 113, 114, 115, 116, 117, 118, 119, 120, 121, 122, 48, 49, 50, 51, 52, 53, 54, 55, 56, 57] : List UInt8).getD k.toNat 0).toNat = dig n := by
  subst e; exact tbl_get n h
local macro_rules | `(tactic| walk_at "call ref") => `(tactic| (refine held ?_))
theorem ggi_spec {prog : Program} {w : World} {A : Around} {s : Shared} {p : Program} {loose : List Str} {mean : ExcName → Option Value} {mg mb : Str → Option Value} {Q : Value → Shared → Prop}
    (X : (hd.heap_1 w.params).In s.heap) (T : Top p loose mean mg mb s.heap) (hdp : A.depth + 1 < recursionLimit) (hh : A.handled = none) (hg : A.guards = some [])
    {N b : Nat} {u v : Tok} (hN : N < 2 ^ 60)
    (ret : ∀ t h' tk', Kp s.heap h' → Q (.bytes (digs (ggi b 0 N)) t) { s with heap := h', toks := tk' }) :
    wpC (model prog w) A (call (.ref 182) [.int N u, .int b v]) Q s := by
  k_dflt (refine' enterC ([(Str.ofString "N", .int N u), (Str.ofString "bias", .int b v)]) X T (Ent.self _) ?k1 ?k2 (Nat.lt_of_le_of_lt (Nat.le_add_right _ _) hdp) ?k3 ?k4 ?k5 ?_ ?c1 ?c2 ?c3 ?c4; (case k1 => k_is); (case k2 => k_is); (case k3 => exact BindsTo.of_eq rfl); (case k4 => exact locs rfl); (case k5 => (dsimp only [List.map]; decide)); (case c1 => exact rfl); (case c2 => exact rfl); (case c3 => exact rfl); (case c4 => decide))
  intro L' h' u' tk' F' N'
  (try dsimp only)
  dsimp only [kstB] at F'
  refine wpC_execs_cons (wpC_Assign_Name (wpC_CallName0 ?_))
  k_steps
  refine ⟨Kept.type, call_bytearray hg fun a h₁ e1 e2 e3 => ?_⟩
  have F1 := Fr.kp (by assumption) e3
  have N1 := News.new (by assumption) N' e2 e1 e3
  k_steps
  dsimp only
  refine wpC_execs_any ?_
  k_steps
  dsimp only
  refine wpC_execs_cons (WhileC_my (fun c : Nat × Nat × List Nat => [(a, baObj (digs c.2.2))]) (fun c => [(Str.ofString "N", .int c.2.1), (Str.ofString "bias", .int b), (Str.ofString "result", .val (.ref a)), (Str.ofString "j", .int c.1)])
    (fun c => c.2.2 ++ ggi b c.1 c.2.1 = ggi b 0 N ∧ c.2.1 < 2 ^ 60) (fun c => c.2.1) (0, N, []) (by assumption) (by assumption) ?_ ?_ ?_)
  · exact Known.int (by with_unfolding_all rfl) rfl (Known.int (by with_unfolding_all rfl) rfl (Known.val (by with_unfolding_all rfl) rfl (Known.int (by with_unfolding_all rfl) rfl Known.nil)))
  · exact ⟨rfl, hN⟩
  · rintro ⟨j, M, l⟩ u τ h tk ⟨h1, h2⟩ F' N'
    dsimp only [nm, V0.mk] at F'
    dsimp only at h1 h2 N' ⊢
    have hl : l.length + 1 ≤ 62 := by have e := congrArg List.length h1; rw [List.length_append] at e; exact Nat.le_trans (Nat.add_le_add_left (ggi_one b j M) _) (Nat.le_trans (Nat.le_of_eq e) (Nat.le_trans (ggi_len b 60 0 N hN) (by decide)))
    k_steps
    refine wpC_execs_any ?_
    k_steps
    (refine T_spec (Frag.In.keeps (by assumption) (Fr.keep (by assumption))) (Top.keeps (by assumption) (Fr.keep (by assumption))) (dep (m := 1) hdp (by decide)) (by assumption) ?_; intro n' t' h' tk' hn' k'; subst hn'; have F' := Fr.kp (by assumption) k'; have N' := News.kp (by assumption) k'; clear k')
    k_steps
    dsimp only
    have hT := Tn_bounds j b
    refine wpC_execs_cons (wpC_If ?_)
    k_steps
    · refine wpC_execs_cons (wpC_Expr (wpC_CallMeth ?_))
      k_steps
      have hMT : M < Tn j b := Int.ofNat_lt.mp (by assumption)
      have hM : M < 36 := Nat.lt_of_lt_of_le hMT (Nat.le_trans hT.2 (by decide))
      rw [tbl_at (n := M) rfl hM]
      have hz : ∀ x, (digs (l ++ [x])).size ≤ sizeLine := fun x => by rw [digs_size, List.length_append]; exact Nat.le_trans hl (by decide)
      have hz' : (digs l).size < sizeLine := by rw [digs_size]; exact Nat.lt_of_lt_of_le hl (by decide)
      refine ⟨Kept.builtin, call_ba_append hg (News.get (by assumption) (by k_mem)) ⟨Int.natCast_nonneg _, Int.ofNat_lt.mpr (dig_lt hM)⟩ hz' fun h' e1 e2 => ⟨rfl, ?_⟩⟩
      rw [Int.toNat_natCast, ← digs_push] at e1
      have F' := Fr.other (by assumption) (by assumption) (by k_mem) e2
      have N' := News.upd (by assumption) (by k_upd) e1 e2
      have hz := hz M
      refine wpC_execs_any ?_
      k_steps
      dsimp only
      have e : l ++ [M] = ggi b 0 N := by rw [← h1, ggi, if_pos hMT]
      rw [e]
      exact ret _ _ _ (Fr.keep (by assumption))
    · refine wpC_execs_nil ?_
      dsimp only
      have hMT : ¬ M < Tn j b := fun h => absurd (Int.ofNat_lt.mpr h) (by assumption)
      have e36 := sub36 hT
      have eMT : (M : Int) - (Tn j b : Int) = ((M - Tn j b : Nat) : Int) := (Int.ofNat_sub (Nat.le_of_not_lt hMT)).symm
      have hm0 : Int.fmod ((M : Int) - (Tn j b : Int)) (36 - (Tn j b : Int)) = (((M - Tn j b) % (36 - Tn j b) : Nat) : Int) := by rw [e36, eMT, fmodN]
      have hm1 : (M - Tn j b) % (36 - Tn j b) < 36 - Tn j b := Nat.mod_lt _ (pos36 hT)
      have hm2 : 0 ≤ Int.fmod ((M : Int) - (Tn j b : Int)) (36 - (Tn j b : Int)) ∧ Int.fmod ((M : Int) - (Tn j b : Int)) (36 - (Tn j b : Int)) < 36 - (Tn j b : Int) := by rw [hm0, e36]; exact ⟨Int.natCast_nonneg _, Int.ofNat_lt.mpr hm1⟩
      refine wpC_execs_cons (wpC_Expr (wpC_CallMeth ?_))
      k_steps
      have hM : Tn j b + (M - Tn j b) % (36 - Tn j b) < 36 := fig hm1
      rw [tbl_at (n := Tn j b + (M - Tn j b) % (36 - Tn j b)) (by rw [hm0]; rfl) hM]
      have hz' : (digs l).size < sizeLine := by rw [digs_size]; exact Nat.lt_of_lt_of_le hl (by decide)
      refine ⟨Kept.builtin, call_ba_append hg (News.get (by assumption) (by k_mem)) ⟨Int.natCast_nonneg _, Int.ofNat_lt.mpr (dig_lt hM)⟩ hz' fun h' e1 e2 => ⟨rfl, ?_⟩⟩
      rw [Int.toNat_natCast, ← digs_push] at e1
      have F' := Fr.other (by assumption) (by assumption) (by k_mem) e2
      have N' := News.upd (by assumption) (by k_upd) e1 e2
      refine wpC_of ?_
      k_steps
      dsimp only
      refine End.intro (j + 1, (M - Tn j b) / (36 - Tn j b), l ++ [Tn j b + (M - Tn j b) % (36 - Tn j b)]) (by assumption) (by assumption) (fun _ h => h)
        (Known.int (by with_unfolding_all rfl) ?_ (Known.int (by with_unfolding_all rfl) rfl (Known.val (by with_unfolding_all rfl) rfl (Known.int (by with_unfolding_all rfl) ?_ Known.nil)))) ⟨⟨?_, ?_⟩, ?_⟩
      · rw [e36, eMT, fdivN]
      · rfl
      · dsimp only
        rw [← h1, List.append_assoc]
        congr 1
        conv => rhs; rw [ggi, if_neg hMT]
        rfl
      · exact Nat.lt_of_le_of_lt (Nat.div_le_self _ _) (Nat.lt_of_le_of_lt (Nat.sub_le _ _) h2)
      · exact Nat.lt_of_le_of_lt (Nat.div_le_self _ _) (Nat.sub_lt (Nat.lt_of_lt_of_le hT.1 (Nat.le_of_not_lt hMT)) hT.1)
end Mine
end
section
namespace Mine
/-- the names that a draw binds, and what it leaves -/
structure Draw (prog : Program) (w : World) (A : Around) (env : Env) (target : Expr) (it : Value) (L : Addr) (n : Nat) (St : Nat → Heap → Prop) (fp wr : List Addr) (ι : Type) (Item : Nat → ι → Prop) (put : ι → (Str → Option Value) → Str → Option Value) : Prop where
  item : ∀ i (s : Shared) m, i < n → St i s.heap → s.heap.Ns L m → ∀ K : Shared → Prop,
    (∀ x h' tk, Item i x → St (i + 1) h' → h'.Ns L (put x m) → (∀ b o, b ∉ wr → b ≠ L → s.heap.get? b = some o → h'.get? b = some o) → K { s with heap := h', toks := tk }) →
    wpAny (model prog w) A (pyNext it) (fun r s₁ => ∃ v, r = some v ∧ wpAny (model prog w) A (letOwnedTupleGo target it v) (fun _ s₂ => wpAny (model prog w) A (assign target env v) (fun _ s₃ => K s₃) Fa s₂) Fa s₁) Fa s
  done : ∀ (s : Shared), St n s.heap → ∀ K : Shared → Prop, (∀ h' tk, (∀ b o, b ∉ wr → s.heap.get? b = some o → h'.get? b = some o) → K { s with heap := h', toks := tk }) →
    wpAny (model prog w) A (pyNext it) (fun r s₁ => r = none ∧ K s₁) Fa s
  frame : ∀ i h h', St i h → (∀ b ∈ fp, ∀ o, h.get? b = some o → h'.get? b = some o) → St i h'
  has : ∀ i h, St i h → ∀ b ∈ wr, ∃ o, h.get? b = some o
theorem owns {h : Heap} {wr : List Addr} (hs : ∀ b ∈ wr, ∃ o, h.get? b = some o) : ∃ own : List (Addr × Obj), own.map (·.1) = wr ∧ ∀ p ∈ own, h.get? p.1 = some p.2 := by
  induction wr with
  | nil => exact ⟨[], rfl, fun _ h => nomatch h⟩
  | cons b r ih =>
    obtain ⟨o, ho⟩ := hs b (.head _)
    obtain ⟨own, e, hk⟩ := ih fun c hc => hs c (.tail _ hc)
    exact ⟨(b, o) :: own, by rw [List.map_cons, e], fun p hp => by rcases List.mem_cons.mp hp with rfl | hp; exact ho; exact hk p hp⟩
section
variable {prog : Program} {w : World} {A : Around} {E : Value → Shared → Prop} {s : Shared} {env : Env} {h₀ : Heap} {L : Addr} {Q : Flow → Shared → Prop} {σ ι : Type}
theorem forC_my {target : Expr} {it : Value} {body : List Stmt} {n : Nat} {St : Nat → Heap → Prop} {fp wr : List Addr} {Item : Nat → ι → Prop} {put : ι → (Str → Option Value) → Str → Option Value} {m₀ : Str → Option Value}
    (D : Draw prog w A env target it L n St fp wr ι Item put) (Led : σ → List (Addr × Obj)) (ps : σ → List (Str × V0)) (P : Nat → σ → Prop) (c₀ : σ)
    (F : Fr h₀ L s.heap m₀) (N : News h₀ L s.heap (Led c₀)) (hst : St 0 s.heap) (hoff : ∀ p ∈ Led c₀, p.1 ∉ wr) (hk : Known m₀ (ps c₀)) (hp : P 0 c₀)
    (hnew : ∀ b ∈ wr, h₀.get? b = none ∧ b ≠ L) (hfp : ∀ b ∈ fp, b ∈ wr ∨ (∃ o, h₀.get? b = some o) ∨ ∃ o, ∀ c, (b, o) ∈ Led c)
    (turn : ∀ i (c : σ) x own u τ h tk, i < n → Item i x → P i c → own.map (·.1) = wr → OwnOff own ((Led c).map (·.1)) → Fr h₀ L h (put x (nm u τ (ps c))) → News h₀ L h (Led c ++ own) →
      wpC (model prog w) A (execs body env) (Turn h₀ L s (fun c' => Led c' ++ own) ps (fun c' => P (i + 1) c' ∧ OwnOff own ((Led c').map (·.1))) Q) { s with heap := h, toks := tk })
    (done : ∀ (c : σ) m τ h tk, P n c → Fr h₀ L h (nm m τ (ps c)) → News h₀ L h (Led c) → Q .next { s with heap := h, toks := tk }) :
    codeC (model prog w) A (.forLoop target it body [] env) (okR Q) s := by
  refine codeC_for (fun k s' => ∃ c i h tk m, s' = { s with heap := h, toks := tk } ∧ i ≤ n ∧ k = n + 1 - i ∧ Fr h₀ L h m ∧ News h₀ L h (Led c) ∧ (∀ p ∈ Led c, p.1 ∉ wr) ∧ Known m (ps c) ∧ P i c ∧ St i h) ?_ (n + 1)
    ⟨c₀, 0, s.heap, s.toks, m₀, rfl, Nat.zero_le _, rfl, F, N, hoff, hk, hp, hst⟩
  rintro k s' ⟨c, i, h, tk, m, rfl, hi, rfl, F₁, N₁, hoff₁, hk₁, hp₁, hst₁⟩
  by_cases hlt : i < n
  · refine wpAny_mono (D.item i { s with heap := h, toks := tk } m hlt hst₁ F₁.ns (fun s₃ => ∃ x h' tk', s₃ = { s with heap := h', toks := tk' } ∧ Item i x ∧ St (i + 1) h' ∧ h'.Ns L (put x m) ∧ ∀ b o, b ∉ wr → b ≠ L → h.get? b = some o → h'.get? b = some o)
      fun x h' tk' a b d e => ⟨x, h', tk', rfl, a, b, d, e⟩) (fun r s₁ hr => ?_) fun _ _ x => x
    obtain ⟨v, rfl, hr⟩ := hr
    refine wpAny_mono hr (fun _ s₂ h₂ => wpAny_mono h₂ (fun _ s₃ h₃ => ?_) fun _ _ x => x) fun _ _ x => x
    obtain ⟨x, h', tk', rfl, hx, hst', hns, hkeep⟩ := h₃
    obtain ⟨own, hown, hown'⟩ := owns (D.has _ _ hst')
    have mw : ∀ p ∈ own, p.1 ∈ wr := fun p hp => hown ▸ List.mem_map.mpr ⟨p, hp, rfl⟩
    have kp₀ : ∀ b o, h₀.get? b = some o → h'.get? b = some o := fun b o e => hkeep b o (fun hb => by rw [(hnew b hb).1] at e; cases e) (Nat.ne_of_lt (Nat.lt_of_lt_of_le (Heap.lt_size e) F₁.above)) (F₁.keep b o e)
    have F₂ : Fr h₀ L h' (put x m) := ⟨hns, kp₀, F₁.above⟩
    have N₂ : News h₀ L h' (Led c ++ own) := fun p hp => by
      rcases List.mem_append.mp hp with hp | hp
      · exact ⟨hkeep _ _ (hoff₁ p hp) (N₁ p hp).2.1 (N₁ p hp).1, (N₁ p hp).2⟩
      · exact ⟨hown' p hp, (hnew _ (mw p hp)).2, (hnew _ (mw p hp)).1⟩
    have off : OwnOff own ((Led c).map (·.1)) := fun p hp b hb e => by
      obtain ⟨q, hq, rfl⟩ := List.mem_map.mp hb
      exact hoff₁ q hq (e ▸ mw p hp)
    have eqm : (nm m (fun y => tokOf (m y)) (ps c)) = m := nm_eq hk₁.tok
    have := turn i c x own m (fun y => tokOf (m y)) h' tk' hlt hx hp₁ hown off (by rw [eqm]; exact F₂) N₂
    refine wpC_mono this fun f s₄ q => ?_
    have fin : End h₀ L s (fun c' => Led c' ++ own) ps (fun c' => P (i + 1) c' ∧ OwnOff own ((Led c').map (·.1))) s₄ → ∃ k', k' < n + 1 - i ∧ ∃ c i h tk m, s₄ = { s with heap := h, toks := tk } ∧ i ≤ n ∧ k' = n + 1 - i ∧ Fr h₀ L h m ∧ News h₀ L h (Led c) ∧ (∀ p ∈ Led c, p.1 ∉ wr) ∧ Known m (ps c) ∧ P i c ∧ St i h := by
      rintro ⟨c', h₅, tk₅, m₅, news₅, rfl, F₅, N₅, hl₅, hk₅, hp₅, off₅⟩
      refine ⟨n + 1 - (i + 1), by omega, c', i + 1, h₅, tk₅, m₅, rfl, hlt, rfl, F₅, fun p hp => N₅ p (hl₅ p (List.mem_append_left _ hp)), fun p hp hw => ?_, hk₅, hp₅, D.frame _ _ _ hst' fun b hb o e => ?_⟩
      · rw [← hown] at hw
        obtain ⟨q, hq, e⟩ := List.mem_map.mp hw
        exact off₅ q hq p.1 (List.mem_map.mpr ⟨p, hp, rfl⟩) e
      · rcases hfp b hb with hb | ⟨o', ho'⟩ | ⟨o', ho'⟩
        · rw [← hown] at hb
          obtain ⟨q, hq, rfl⟩ := List.mem_map.mp hb
          have := hown' q hq
          rw [e] at this
          cases this
          exact (N₅ q (hl₅ q (List.mem_append_right _ hq))).1
        · rw [kp₀ b o' ho'] at e
          cases e
          exact F₅.keep _ _ ho'
        · have := (N₂ (b, o') (List.mem_append_left _ (ho' c))).1
          dsimp only at this
          rw [this] at e
          cases e
          exact (N₅ (b, _) (hl₅ _ (List.mem_append_left _ (ho' c')))).1
    cases f with
    | ret v => exact q
    | brk => exact q
    | next => exact fin q
    | cont => exact fin q
  · obtain rfl : i = n := by omega
    refine wpAny_mono (D.done { s with heap := h, toks := tk } hst₁ (fun s₃ => ∃ h' tk', s₃ = { s with heap := h', toks := tk' } ∧ ∀ b o, b ∉ wr → h.get? b = some o → h'.get? b = some o) fun h' tk' a => ⟨h', tk', rfl, a⟩) (fun r s₁ hr => ?_) fun _ _ x => x
    obtain ⟨rfl, h', tk', rfl, hkeep⟩ := hr
    have hL : L ∉ wr := fun hb => (hnew L hb).2 rfl
    have F₂ : Fr h₀ L h' m := ⟨let ⟨o', es, n', ho, r⟩ := F₁.ns; ⟨o', es, n', hkeep _ _ hL ho, r⟩, fun b o e => hkeep b o (fun hb => by rw [(hnew b hb).1] at e; cases e) (F₁.keep b o e), F₁.above⟩
    have N₂ : News h₀ L h' (Led c) := fun p hp => ⟨hkeep _ _ (hoff₁ p hp) (N₁ p hp).1, (N₁ p hp).2⟩
    obtain ⟨τ, F₃⟩ := Fr.canon F₂ hk₁
    exact wpC_execs_nil (done c m τ h' tk' hp₁ F₃ N₂)
theorem for_my {target : Expr} {it : Value} {body : List Stmt} {n : Nat} {St : Nat → Heap → Prop} {fp wr : List Addr} {Item : Nat → ι → Prop} {put : ι → (Str → Option Value) → Str → Option Value} {m₀ : Str → Option Value}
    (D : Draw prog w A env target it L n St fp wr ι Item put) (Led : σ → List (Addr × Obj)) (ps : σ → List (Str × V0)) (P : Nat → σ → Prop) (c₀ : σ)
    (F : Fr h₀ L s.heap m₀) (N : News h₀ L s.heap (Led c₀)) (hst : St 0 s.heap) (hoff : ∀ p ∈ Led c₀, p.1 ∉ wr) (hk : Known m₀ (ps c₀)) (hp : P 0 c₀)
    (hnew : ∀ b ∈ wr, h₀.get? b = none ∧ b ≠ L) (hfp : ∀ b ∈ fp, b ∈ wr ∨ (∃ o, h₀.get? b = some o) ∨ ∃ o, ∀ c, (b, o) ∈ Led c)
    (turn : ∀ i (c : σ) x own u τ h tk, i < n → Item i x → P i c → own.map (·.1) = wr → OwnOff own ((Led c).map (·.1)) → Fr h₀ L h (put x (nm u τ (ps c))) → News h₀ L h (Led c ++ own) →
      wpAny (model prog w) A (execs body env) (Turn h₀ L s (fun c' => Led c' ++ own) ps (fun c' => P (i + 1) c' ∧ OwnOff own ((Led c').map (·.1))) Q) Fa { s with heap := h, toks := tk })
    (done : ∀ (c : σ) m τ h tk, P n c → Fr h₀ L h (nm m τ (ps c)) → News h₀ L h (Led c) → Q .next { s with heap := h, toks := tk }) :
    codeAny (model prog w) A (.forLoop target it body [] env) (fun r s' => match r with | .ok f => Q f s' | .error e => cameBackBy (model prog w) A env E e s') s := by
  refine codeAny_forLoop_any (fun k s' => ∃ c i h tk m, s' = { s with heap := h, toks := tk } ∧ i ≤ n ∧ k = n + 1 - i ∧ Fr h₀ L h m ∧ News h₀ L h (Led c) ∧ (∀ p ∈ Led c, p.1 ∉ wr) ∧ Known m (ps c) ∧ P i c ∧ St i h) ?_ (n + 1)
    ⟨c₀, 0, s.heap, s.toks, m₀, rfl, Nat.zero_le _, rfl, F, N, hoff, hk, hp, hst⟩
  rintro k s' ⟨c, i, h, tk, m, rfl, hi, rfl, F₁, N₁, hoff₁, hk₁, hp₁, hst₁⟩
  by_cases hlt : i < n
  · refine wpAny_mono (D.item i { s with heap := h, toks := tk } m hlt hst₁ F₁.ns (fun s₃ => ∃ x h' tk', s₃ = { s with heap := h', toks := tk' } ∧ Item i x ∧ St (i + 1) h' ∧ h'.Ns L (put x m) ∧ ∀ b o, b ∉ wr → b ≠ L → h.get? b = some o → h'.get? b = some o)
      fun x h' tk' a b d e => ⟨x, h', tk', rfl, a, b, d, e⟩) (fun r s₁ hr => ?_) fun _ _ x => x.elim
    obtain ⟨v, rfl, hr⟩ := hr
    refine wpAny_mono hr (fun _ s₂ h₂ => wpAny_mono h₂ (fun _ s₃ h₃ => ?_) fun _ _ x => x.elim) fun _ _ x => x.elim
    obtain ⟨x, h', tk', rfl, hx, hst', hns, hkeep⟩ := h₃
    obtain ⟨own, hown, hown'⟩ := owns (D.has _ _ hst')
    have mw : ∀ p ∈ own, p.1 ∈ wr := fun p hp => hown ▸ List.mem_map.mpr ⟨p, hp, rfl⟩
    have kp₀ : ∀ b o, h₀.get? b = some o → h'.get? b = some o := fun b o e => hkeep b o (fun hb => by rw [(hnew b hb).1] at e; cases e) (Nat.ne_of_lt (Nat.lt_of_lt_of_le (Heap.lt_size e) F₁.above)) (F₁.keep b o e)
    have F₂ : Fr h₀ L h' (put x m) := ⟨hns, kp₀, F₁.above⟩
    have N₂ : News h₀ L h' (Led c ++ own) := fun p hp => by
      rcases List.mem_append.mp hp with hp | hp
      · exact ⟨hkeep _ _ (hoff₁ p hp) (N₁ p hp).2.1 (N₁ p hp).1, (N₁ p hp).2⟩
      · exact ⟨hown' p hp, (hnew _ (mw p hp)).2, (hnew _ (mw p hp)).1⟩
    have off : OwnOff own ((Led c).map (·.1)) := fun p hp b hb e => by
      obtain ⟨q, hq, rfl⟩ := List.mem_map.mp hb
      exact hoff₁ q hq (e ▸ mw p hp)
    have eqm : (nm m (fun y => tokOf (m y)) (ps c)) = m := nm_eq hk₁.tok
    have := turn i c x own m (fun y => tokOf (m y)) h' tk' hlt hx hp₁ hown off (by rw [eqm]; exact F₂) N₂
    refine wpAny_mono this (fun f s₄ q => ?_) fun _ _ x => x.elim
    have fin : End h₀ L s (fun c' => Led c' ++ own) ps (fun c' => P (i + 1) c' ∧ OwnOff own ((Led c').map (·.1))) s₄ → ∃ k', k' < n + 1 - i ∧ ∃ c i h tk m, s₄ = { s with heap := h, toks := tk } ∧ i ≤ n ∧ k' = n + 1 - i ∧ Fr h₀ L h m ∧ News h₀ L h (Led c) ∧ (∀ p ∈ Led c, p.1 ∉ wr) ∧ Known m (ps c) ∧ P i c ∧ St i h := by
      rintro ⟨c', h₅, tk₅, m₅, news₅, rfl, F₅, N₅, hl₅, hk₅, hp₅, off₅⟩
      refine ⟨n + 1 - (i + 1), by omega, c', i + 1, h₅, tk₅, m₅, rfl, hlt, rfl, F₅, fun p hp => N₅ p (hl₅ p (List.mem_append_left _ hp)), fun p hp hw => ?_, hk₅, hp₅, D.frame _ _ _ hst' fun b hb o e => ?_⟩
      · rw [← hown] at hw
        obtain ⟨q, hq, e⟩ := List.mem_map.mp hw
        exact off₅ q hq p.1 (List.mem_map.mpr ⟨p, hp, rfl⟩) e
      · rcases hfp b hb with hb | ⟨o', ho'⟩ | ⟨o', ho'⟩
        · rw [← hown] at hb
          obtain ⟨q, hq, rfl⟩ := List.mem_map.mp hb
          have := hown' q hq
          rw [e] at this
          cases this
          exact (N₅ q (hl₅ q (List.mem_append_right _ hq))).1
        · rw [kp₀ b o' ho'] at e
          cases e
          exact F₅.keep _ _ ho'
        · have := (N₂ (b, o') (List.mem_append_left _ (ho' c))).1
          dsimp only at this
          rw [this] at e
          cases e
          exact (N₅ (b, _) (hl₅ _ (List.mem_append_left _ (ho' c')))).1
    cases f with
    | ret v => exact q
    | brk => exact q
    | next => exact fin q
    | cont => exact fin q
  · obtain rfl : i = n := by omega
    refine wpAny_mono (D.done { s with heap := h, toks := tk } hst₁ (fun s₃ => ∃ h' tk', s₃ = { s with heap := h', toks := tk' } ∧ ∀ b o, b ∉ wr → h.get? b = some o → h'.get? b = some o) fun h' tk' a => ⟨h', tk', rfl, a⟩) (fun r s₁ hr => ?_) fun _ _ x => x.elim
    obtain ⟨rfl, h', tk', rfl, hkeep⟩ := hr
    have hL : L ∉ wr := fun hb => (hnew L hb).2 rfl
    have F₂ : Fr h₀ L h' m := ⟨let ⟨o', es, n', ho, r⟩ := F₁.ns; ⟨o', es, n', hkeep _ _ hL ho, r⟩, fun b o e => hkeep b o (fun hb => by rw [(hnew b hb).1] at e; cases e) (F₁.keep b o e), F₁.above⟩
    have N₂ : News h₀ L h' (Led c) := fun p hp => ⟨hkeep _ _ (hoff₁ p hp) (N₁ p hp).1, (N₁ p hp).2⟩
    obtain ⟨τ, F₃⟩ := Fr.canon F₂ hk₁
    exact wpAny_execs_nil (done c m τ h' tk' hp₁ F₃ N₂)
end
end Mine
end
section
namespace Mine
section
variable {prog : Program} {w : World} {A : Around} {E : Value → Shared → Prop} {s : Shared} {env : Env} {L : Addr} {m : Str → Option Value}
abbrev PlainScope (env : Env) : Prop := (env.scope.kind == .class || (env.scope.kind == .module && env.locals != env.globals)) = false
theorem Draw.ofWalks {x : Str} {px : Pos} {I : Addr} {n : Nat} {P : Nat → Value → Prop} {St : Nat → Heap → Prop} {fp wr : List Addr} (W : Walks prog w A I fp wr n P St) (hx : env.kindOf x = some .local) (hp : PlainScope env) (hLf : env.locals ∉ fp)
    (has : ∀ i h, St i h → ∀ b ∈ wr, ∃ o, h.get? b = some o) : Draw prog w A env (.Name x px) (.ref I) env.locals n St fp wr Value P (fun v m y => if y = x then some v else m y) where
  item := fun i s m hi st hn K hK => W.item i s _ _ hi st fun v h' tk hP st' hk => ⟨v, rfl, by
    refine wpAny_pure ?_
    have hn' : h'.Ns env.locals m := let ⟨o, es, n', ho, r⟩ := hn; ⟨o, es, n', hk _ _ (fun hw => hLf (W.sub _ hw)) ho, r⟩
    refine wpAny_assign_Name (wpAny_storeName_local hx hn' (fun h₂ hn₂ hs₂ => ?_) hp)
    refine hK v h₂ _ hP (W.frame _ _ _ st' fun b hb o e => hs₂.extBut b o (fun q => hLf (q ▸ hb)) e) hn₂ fun b o hb hbL e => hs₂.extBut b o hbL (hk b o hb e)⟩
  done := fun s st K hK => W.done s _ _ st fun h' tk hk => ⟨rfl, hK h' tk hk⟩
  frame := W.frame
  has := has
theorem assign2 {xa xb : Str} {pa pb pos : Pos} {k : Nat} {T : Addr} {v1 v2 : Value} {Q : Unit → Shared → Prop} (hh : A.handled = none) (ht : s.heap.IsTuple T #[v1, v2]) (hn : s.heap.Ns env.locals m) (ha : env.kindOf xa = some .local) (hb : env.kindOf xb = some .local) (hp : PlainScope env)
    (h : ∀ h' tk, h'.Ns env.locals (fun y => if y = xb then some v2 else if y = xa then some v1 else m y) → (∀ b o, b ≠ env.locals → s.heap.get? b = some o → h'.get? b = some o) → Q () { s with heap := h', toks := tk }) :
    wpAny (model prog w) A (assign (.Tuple [.Name xa pa, .Name xb pb] k pos) env (.ref T)) Q E s := by
  refine wpAny_assign_Tuple hh ht rfl rfl fun h₃ hx₃ => ?_
  have old : ∀ b o, s.heap.get? b = some o → h₃.get? b = some o := fun b o e => hx₃ b o (Nat.ne_of_lt (Heap.lt_size e)) e
  have hn₃ : h₃.Ns env.locals m := hn.at' fun o e => old _ o e
  show wpAny _ A (do holding [v2] (assign (.Name xa pa) env v1); do holding [] (assign (.Name xb pb) env v2); pure ()) _ _ _
  refine wpAny_bind (wpAny_holding (wpAny_assign_Name (wpAny_storeName_local ha hn₃ (fun h₄ hn₄ hs₄ => ?_) hp)))
  refine wpAny_bind (wpAny_holding (wpAny_assign_Name (wpAny_storeName_local hb hn₄ (fun h₅ hn₅ hs₅ => wpAny_pure ?_) hp)))
  exact h h₅ _ hn₅ fun b o hbL e => hs₅.extBut b o hbL (hs₄.extBut b o hbL (old b o e))
theorem Draw.enumerate {xa xb : Str} {pa pb pos : Pos} {k : Nat} {e it l : Addr} {items : Array Value} (hh : A.handled = none) (hei : e ≠ it) (hle : l ≠ e) (hli : l ≠ it) (ha : env.kindOf xa = some .local) (hb : env.kindOf xb = some .local) (hp : PlainScope env)
    (hL : env.locals ∉ [e, it, l]) : Draw prog w A env (.Tuple [.Name xa pa, .Name xb pb] k pos) (.ref e) env.locals items.size (fun i h => (∃ old, IsEnum h e it i old) ∧ h.IsListIter it l i ∧ h.IsList l items) [e, it, l] [e, it] (Nat × Tok × Value)
      (fun i x => x.1 = i ∧ items[i]? = some x.2.2) (fun x m y => if y = xb then some x.2.2 else if y = xa then some (.int x.1 x.2.1) else m y) where
  item := fun i s m hi st hn K hK => by
    have W := WalksT.enumerate (prog := prog) (w := w) hh e it l hei hle hli items
    refine W.item i s _ _ hi st fun T vals h' tk hP hsz hT hmid hk => ⟨.ref T, rfl, W.go _ _ _ i T _ _ _ hmid fun h₂ st₂ hk₂ => ?_⟩
    obtain ⟨t, x, hx, rfl⟩ := hP
    have hwr : env.locals ∉ [e, it] := fun hw => hL (W.sub _ hw)
    have hn₂ : h₂.Ns env.locals m := hn.at' fun o q => hk₂ _ o hwr (hk _ o hwr q)
    have hT₂ : h₂.IsTuple T #[.int i t, x] := let ⟨o, ho, r⟩ := hT; ⟨o, hk₂ T o (W.apart _ _ _ hmid) ho, r⟩
    refine assign2 (s := { s with heap := h₂, toks := tk }) hh hT₂ hn₂ ha hb hp fun h₃ tk₃ hn₃ hk₃ => ?_
    exact hK (i, t, x) h₃ tk₃ ⟨rfl, hx⟩ (W.frame _ _ _ st₂ fun b hb' o q => hk₃ b o (fun z => hL (z ▸ hb')) q) hn₃ fun b o hbw hbL q => hk₃ b o hbL (hk₂ b o hbw (hk b o hbw q))
  done := fun s st K hK => (WalksT.enumerate (prog := prog) (w := w) hh e it l hei hle hli items).done s _ _ st fun h' tk hk => ⟨rfl, hK h' tk hk⟩
  frame := (WalksT.enumerate (prog := prog) (w := w) hh e it l hei hle hli items).frame
  has := fun i h st b hb' => by
    obtain ⟨⟨old, h1⟩, ⟨o, h2, _⟩, _⟩ := st
    simp only [List.mem_cons, List.not_mem_nil, or_false] at hb'
    rcases hb' with rfl | rfl
    · exact ⟨_, h1⟩
    · exact ⟨_, h2⟩
/-- a list of pairs -/
noncomputable def PairsAt (h : Heap) (ts : List (Addr × Value × Value)) : Prop := ∀ t ∈ ts, h.IsTuple t.1 #[t.2.1, t.2.2]
theorem Draw.pairs {xa xb : Str} {pa pb pos : Pos} {k : Nat} {I l : Addr} {ts : List (Addr × Value × Value)} (hh : A.handled = none) (hne : l ≠ I) (hts : ∀ t ∈ ts, t.1 ≠ I) (ha : env.kindOf xa = some .local) (hb : env.kindOf xb = some .local) (hp : PlainScope env)
    (hL : env.locals ∉ I :: l :: ts.map (·.1)) : Draw prog w A env (.Tuple [.Name xa pa, .Name xb pb] k pos) (.ref I) env.locals ts.length (fun i h => h.IsListIter I l i ∧ h.IsList l (ts.map fun t => Value.ref t.1).toArray ∧ PairsAt h ts) (I :: l :: ts.map (·.1)) [I] (Addr × Value × Value)
      (fun i x => ts[i]? = some x) (fun x m y => if y = xb then some x.2.2 else if y = xa then some x.2.1 else m y) where
  item := fun i s m hi st hn K hK => by
    obtain ⟨st1, st2, st3⟩ := st
    have hLI : env.locals ≠ I := fun q => hL (q ▸ List.mem_cons_self ..)
    have hti : ts[i] ∈ ts := List.getElem_mem hi
    refine wpAny_pyNext_list_item st1 st2 (x := .ref ts[i].1) (by simp [hi]) fun h' hit' hs' => ⟨_, rfl, ?_⟩
    have go : ∀ (Q : Unit → Shared → Prop), Q () { s with heap := h' } → wpAny (model prog w) A (letOwnedTupleGo (.Tuple [.Name xa pa, .Name xb pb] k pos) (.ref I) (.ref ts[i].1)) Q Fa { s with heap := h' } := fun Q hQ => by
      obtain ⟨o, ho, hc, hd⟩ := id hit'
      unfold letOwnedTupleGo
      refine wpAny_bind (wpAny_load ho ?_)
      rw [hc, hd]
      dsimp only
      rw [show (["enumerate", "zip", "dict_itemiterator", "dict_reverseitemiterator", "odict_iterator", "itertools.zip_longest", "itertools.pairwise"].contains "list_iterator") = false by decide, Bool.false_and]
      exact wpAny_pure hQ
    refine go _ ?_
    have hT : h'.IsTuple ts[i].1 #[ts[i].2.1, ts[i].2.2] := let ⟨o, ho, r⟩ := st3 _ hti; ⟨o, hs'.extBut _ _ (hts _ hti) ho, r⟩
    have hn' : h'.Ns env.locals m := hn.at' fun o q => hs'.extBut _ o hLI q
    refine assign2 (s := { s with heap := h' }) hh hT hn' ha hb hp fun h₃ tk₃ hn₃ hk₃ => ?_
    refine hK ts[i] h₃ tk₃ (by simp [hi]) ⟨hit'.at fun o q => hk₃ _ o (Ne.symm hLI) q, st2.at fun o q => hk₃ _ o (fun z => hL (z ▸ .tail _ (.head _))) (hs'.extBut _ o hne q), fun t ht => ?_⟩ hn₃ fun b o hbw hbL q => hk₃ b o hbL (hs'.extBut b o (fun z => hbw (z ▸ .head _)) q)
    obtain ⟨o, ho, r⟩ := st3 t ht
    exact ⟨o, hk₃ _ o (fun z => hL (z ▸ .tail _ (.tail _ (List.mem_map.mpr ⟨t, ht, rfl⟩)))) (hs'.extBut _ o (hts t ht) ho), r⟩
  done := fun s st K hK => wpAny_pyNext_list_end hh st.1 st.2.1 (by simp) fun h' he' => ⟨rfl, hK h' s.toks fun b o hb q => he' b o (fun h => hb (by simp [h])) q⟩
  frame := fun i h h' st hk => ⟨st.1.at fun o q => hk I (.head _) o q, st.2.1.at fun o q => hk l (.tail _ (.head _)) o q, fun t ht => let ⟨o, ho, r⟩ := st.2.2 t ht; ⟨o, hk t.1 (.tail _ (.tail _ (List.mem_map.mpr ⟨t, ht, rfl⟩))) o ho, r⟩⟩
  has := fun i h st b hb' => by
    obtain ⟨o, ho, _⟩ := st.1
    rw [List.mem_singleton.mp hb']
    exact ⟨o, ho⟩
end
section
variable {prog : Program} {w : World} {A : Around} {s : Shared} {env : Env}
/-- a loop's source is had: the loop is to follow -/
noncomputable def IterC (M : Model) (A : Around) (target : Expr) (body : List Stmt) (env : Env) (Q : Flow → Shared → Prop) (x : Value) (s : Shared) : Prop :=
  wpAny M A (pyIter x) (fun it s₂ => codeC M A (.forLoop target it body [] env) (okR Q) s₂) Fa s
theorem wpC_For_my {target iter : Expr} {body : List Stmt} {pos : Pos} {Q : Flow → Shared → Prop} (h : wpAny (model prog w) A (eval iter env) (IterC (model prog w) A target body env Q) Fa s)
    (hs : ∀ x, foldedSetIterable iter env x = pure x := by intro _; rfl) : wpC (model prog w) A (exec (.For target iter body [] pos) env) Q s := wpC_For h hs
noncomputable def IterA (M : Model) (A : Around) (target : Expr) (body : List Stmt) (env : Env) (Q : Flow → Shared → Prop) (E : Value → Shared → Prop) (x : Value) (s : Shared) : Prop :=
  wpAny M A (pyIter x) (fun it s₂ => codeAny M A (.forLoop target it body [] env) (fun r s' => match r with | .ok f => Q f s' | .error e => cameBackBy M A env E e s') s₂) E s
theorem wpAny_For_my {target iter : Expr} {body : List Stmt} {pos : Pos} {E : Value → Shared → Prop} {Q : Flow → Shared → Prop} (h : wpAny (model prog w) A (eval iter env) (IterA (model prog w) A target body env Q E) E s)
    (hs : ∀ x, foldedSetIterable iter env x = pure x := by intro _; rfl) : wpAny (model prog w) A (exec (.For target iter body [] pos) env) Q E s := wpAny_For h hs
end
end Mine
end
section
namespace Mine
theorem list_lt {h : Heap} {l : Addr} {items : Array Value} (x : h.IsList l items) : @LT.lt Nat _ l h.objs.size := let ⟨_, ho, _⟩ := x; Heap.lt_size ho
section
variable {prog : Program} {w : World} {A : Around} {E : Value → Shared → Prop} {s : Shared} {env : Env} {h₀ : Heap} {L : Addr} {Q : Flow → Shared → Prop} {σ ι : Type}
theorem enumC {xa xb : Str} {pa pb pos : Pos} {k : Nat} {body : List Stmt} {l : Addr} {items : Array Value} {m₀ : Str → Option Value} (hh : A.handled = none) (ha : env.kindOf xa = some .local) (hb : env.kindOf xb = some .local) (hsc : PlainScope env) (hl : h₀.IsList l items)
    (Led : σ → List (Addr × Obj)) (ps : σ → List (Str × V0)) (P : Nat → σ → Prop) (c₀ : σ) (hL : env.locals = L)
    (F : Fr h₀ L s.heap m₀) (N : News h₀ L s.heap (Led c₀)) (hk : Known m₀ (ps c₀)) (hp : P 0 c₀)
    (turn : ∀ i (c : σ) t v own u τ h tk, items[i]? = some v → P i c → OwnOff own ((Led c).map (·.1)) → Fr h₀ L h (fun y => if y = xb then some v else if y = xa then some (.int (i : Int) t) else nm u τ (ps c) y) → News h₀ L h (Led c ++ own) →
      wpC (model prog w) A (execs body env) (Turn h₀ L s (fun c' => Led c' ++ own) ps (fun c' => P (i + 1) c' ∧ OwnOff own ((Led c').map (·.1))) Q) { s with heap := h, toks := tk })
    (done : ∀ (c : σ) m τ h tk, P (items.size) c → Fr h₀ L h (nm m τ (ps c)) → News h₀ L h (Led c) → Q .next { s with heap := h, toks := tk }) :
    wpAny (model prog w) A (call (.type "enumerate") [.ref l]) (IterC (model prog w) A (.Tuple [.Name xa pa, .Name xb pb] k pos) body env Q) Fa s := by
  subst hL
  have hLs : @LT.lt Nat _ env.locals s.heap.objs.size := F.ns.lt
  have hab : @LE.le Nat _ h₀.objs.size env.locals := F.above
  have hl0 := list_lt hl
  have hls : s.heap.IsList l items := hl.at fun o e => F.keep _ o e
  refine call_enumerate_list hls fun h' hE hI hsz hk' => ?_
  unfold IterC
  refine wpAny_pyIter_enum hE ?_
  refine forC_my (s := { s with heap := h' }) (Draw.enumerate (l := l) (items := items) hh (Nat.succ_ne_self _) (neN (by omega)) (neN (by omega)) ha hb hsc ?_) Led ps P c₀ (Fr.kp F hk') (News.kp N hk') ⟨⟨_, hE⟩, hI, hls.at fun o e => hk' _ o e⟩
    (fun p hp hb => ?_) hk hp (fun b hb => ?_) (fun b hb => ?_) (fun i c x own u τ h tk hi hx hP _ off F' N' => ?_) done
  · intro hm
    simp only [List.mem_cons, List.not_mem_nil, or_false] at hm
    rcases hm with e | e | e
    · exact absurd e (neN (by omega))
    · exact absurd e (neN (by omega))
    · exact absurd e (neN (by omega))
  · have hpl : @LT.lt Nat _ p.1 s.heap.objs.size := Heap.lt_size (N p hp).1
    simp only [List.mem_cons, List.not_mem_nil, or_false] at hb
    rcases hb with e | e
    · exact absurd e (neN (by omega))
    · exact absurd e (neN (by omega))
  · have hle : @LE.le Nat _ s.heap.objs.size b := by
      simp only [List.mem_cons, List.not_mem_nil, or_false] at hb
      rcases hb with e | e
      · rw [e]; exact Nat.le_succ _
      · rw [e]; exact Nat.le_refl _
    exact ⟨Heap.get?_none_of_le (Nat.le_trans hab (Nat.le_trans (Nat.le_of_lt hLs) hle)), neN (by omega)⟩
  · simp only [List.mem_cons, List.not_mem_nil, or_false] at hb
    rcases hb with e | e | e
    · exact .inl (by rw [e]; exact .head _)
    · exact .inl (by rw [e]; exact .tail _ (.head _))
    · rw [e]; exact .inr (.inl (let ⟨o, ho, _⟩ := hl; ⟨o, ho⟩))
  · obtain ⟨i', t, v⟩ := x
    obtain ⟨rfl, hv⟩ := hx
    exact turn i' c t v own u τ h tk hv hP off F' N'
/-- a loop over an iterator that was just made -/
theorem loopA {x : Str} {px : Pos} {body : List Stmt} {n : Nat} {Pv : Nat → Value → Prop} {St : Nat → Heap → Prop} {fp : List Addr} {m₀ : Str → Option Value} {o : Obj}
    (W : Walks prog w A s.heap.objs.size fp [s.heap.objs.size] n Pv St) (hx : env.kindOf x = some .local) (hsc : PlainScope env) (has : ∀ i h, St i h → ∃ o, h.get? s.heap.objs.size = some o)
    (Led : σ → List (Addr × Obj)) (hfp : ∀ b ∈ fp, b = s.heap.objs.size ∨ (∃ o, h₀.get? b = some o) ∨ ∃ o, ∀ c, (b, o) ∈ Led c) (ps : σ → List (Str × V0)) (P : Nat → σ → Prop) (c₀ : σ) (hL : env.locals = L)
    (F : Fr h₀ L s.heap m₀) (N : News h₀ L s.heap (Led c₀)) (hk : Known m₀ (ps c₀)) (hp : P 0 c₀) (hst : St 0 (s.heap.push o))
    (turn : ∀ i (c : σ) v own u τ h tk, i < n → Pv i v → P i c → OwnOff own ((Led c).map (·.1)) → Fr h₀ L h (fun y => if y = x then some v else nm u τ (ps c) y) → News h₀ L h (Led c ++ own) →
      wpAny (model prog w) A (execs body env) (Turn h₀ L s (fun c' => Led c' ++ own) ps (fun c' => P (i + 1) c' ∧ OwnOff own ((Led c').map (·.1))) Q) Fa { s with heap := h, toks := tk })
    (done : ∀ (c : σ) m τ h tk, P (n) c → Fr h₀ L h (nm m τ (ps c)) → News h₀ L h (Led c) → Q .next { s with heap := h, toks := tk }) :
    codeAny (model prog w) A (.forLoop (.Name x px) (.ref s.heap.objs.size) body [] env) (fun r s' => match r with | .ok f => Q f s' | .error e => cameBackBy (model prog w) A env E e s') { s with heap := s.heap.push o } := by
  subst hL
  have hLs : @LT.lt Nat _ env.locals s.heap.objs.size := F.ns.lt
  have hab : @LE.le Nat _ h₀.objs.size env.locals := F.above
  have hLf : env.locals ∉ fp := fun hb => by
    rcases hfp _ hb with e | ⟨o, e⟩ | ⟨o, e⟩
    · rw [e] at hLs; exact Nat.lt_irrefl _ hLs
    · have := Heap.lt_size e; exact Nat.lt_irrefl _ (Nat.lt_of_lt_of_le this hab)
    · exact (N _ (e c₀)).2.1 rfl
  refine for_my (s := { s with heap := s.heap.push o }) (Draw.ofWalks W hx hsc hLf fun i h st b hb => by rw [List.mem_singleton.mp hb]; exact has i h st) Led ps P c₀ (F.push _) (fun p hp => ⟨Heap.get?_push_of_some _ (N p hp).1, (N p hp).2⟩) hst
    (fun p hp hb => ?_) hk hp (fun b hb => ?_) (fun b hb => ?_) (fun i c v own u τ h tk hi hv hP _ off F' N' => turn i c v own u τ h tk hi hv hP off F' N') done
  · have := Heap.lt_size (N p hp).1
    rw [List.mem_singleton.mp hb] at this
    exact Nat.lt_irrefl _ this
  · rw [List.mem_singleton.mp hb]
    exact ⟨Heap.get?_none_of_le (Nat.le_trans hab (Nat.le_of_lt hLs)), fun e => by rw [← e] at hLs; exact Nat.lt_irrefl _ hLs⟩
  · rcases hfp b hb with e | e | e
    · exact .inl (by rw [e]; exact .head _)
    · exact .inr (.inl e)
    · exact .inr (.inr e)
theorem listA {x : Str} {px : Pos} {body : List Stmt} {l : Addr} {items : Array Value} {m₀ : Str → Option Value} (hh : A.handled = none) (hx : env.kindOf x = some .local) (hsc : PlainScope env) (hl : s.heap.IsList l items)
    (Led : σ → List (Addr × Obj)) (hfp : (∃ o, h₀.get? l = some o) ∨ ∃ o, ∀ c, (l, o) ∈ Led c) (ps : σ → List (Str × V0)) (P : Nat → σ → Prop) (c₀ : σ) (hL : env.locals = L)
    (F : Fr h₀ L s.heap m₀) (N : News h₀ L s.heap (Led c₀)) (hk : Known m₀ (ps c₀)) (hp : P 0 c₀)
    (turn : ∀ i (c : σ) v own u τ h tk, items[i]? = some v → P i c → OwnOff own ((Led c).map (·.1)) → Fr h₀ L h (fun y => if y = x then some v else nm u τ (ps c) y) → News h₀ L h (Led c ++ own) →
      wpAny (model prog w) A (execs body env) (Turn h₀ L s (fun c' => Led c' ++ own) ps (fun c' => P (i + 1) c' ∧ OwnOff own ((Led c').map (·.1))) Q) Fa { s with heap := h, toks := tk })
    (done : ∀ (c : σ) m τ h tk, P (items.size) c → Fr h₀ L h (nm m τ (ps c)) → News h₀ L h (Led c) → Q .next { s with heap := h, toks := tk }) :
    IterA (model prog w) A (.Name x px) body env Q E (.ref l) s := by
  have hlt := list_lt hl
  have hne : l ≠ s.heap.objs.size := Nat.ne_of_lt hlt
  unfold IterA
  refine wpAny_pyIter_list hl ?_
  refine loopA (Walks.list hh _ l hne items) hx hsc (fun i h st => let ⟨o, ho, _⟩ := st.1; ⟨o, ho⟩) Led (fun b hb => ?_) ps P c₀ hL F N hk hp ⟨⟨_, Heap.get?_push_size _ rfl, rfl, rfl⟩, hl.at fun o e => Heap.get?_push_of_some _ e⟩
    (fun i c v own u τ h tk _ hv hP off F' N' => turn i c v own u τ h tk hv hP off F' N') done
  simp only [List.mem_cons, List.not_mem_nil, or_false] at hb
  rcases hb with rfl | rfl
  · exact .inl rfl
  · exact .inr hfp
theorem bytesA {x : Str} {px : Pos} {body : List Stmt} {b : Array UInt8} {tb : Tok} {m₀ : Str → Option Value} (hh : A.handled = none) (hx : env.kindOf x = some .local) (hsc : PlainScope env)
    (Led : σ → List (Addr × Obj)) (ps : σ → List (Str × V0)) (P : Nat → σ → Prop) (c₀ : σ) (hL : env.locals = L)
    (F : Fr h₀ L s.heap m₀) (N : News h₀ L s.heap (Led c₀)) (hk : Known m₀ (ps c₀)) (hp : P 0 c₀)
    (turn : ∀ i (c : σ) k t own u τ h tk, b[i]? = some k → P i c → OwnOff own ((Led c).map (·.1)) → Fr h₀ L h (fun y => if y = x then some (.int (k.toNat : Int) t) else nm u τ (ps c) y) → News h₀ L h (Led c ++ own) →
      wpAny (model prog w) A (execs body env) (Turn h₀ L s (fun c' => Led c' ++ own) ps (fun c' => P (i + 1) c' ∧ OwnOff own ((Led c').map (·.1))) Q) Fa { s with heap := h, toks := tk })
    (done : ∀ (c : σ) m τ h tk, P (b.size) c → Fr h₀ L h (nm m τ (ps c)) → News h₀ L h (Led c) → Q .next { s with heap := h, toks := tk }) :
    IterA (model prog w) A (.Name x px) body env Q E (.bytes b tb) s := by
  unfold IterA
  refine KBw.pyIter_bytes ?_
  refine loopA (KBw.walks hh _ b tb) hx hsc (fun i h st => let ⟨o, ho, _⟩ := st; ⟨o, ho⟩) Led (fun b hb => .inl (List.mem_singleton.mp hb)) ps P c₀ hL F N hk hp ⟨_, Heap.get?_push_size _ rfl, rfl, rfl⟩
    (fun i c v own u τ h tk _ hv hP off F' N' => ?_) done
  obtain ⟨k, t, hk', rfl⟩ := hv
  exact turn i c k t own u τ h tk hk' hP off F' N'
theorem rangeA {x : Str} {px : Pos} {body : List Stmt} {r : Addr} {n : Nat} {t1 t2 t3 : Tok} {m₀ : Str → Option Value} (hh : A.handled = none) (hx : env.kindOf x = some .local) (hsc : PlainScope env) (hr : IsRange s.heap r 0 n 1 t1 t2 t3) (hn : n < 2 ^ 60)
    (Led : σ → List (Addr × Obj)) (ps : σ → List (Str × V0)) (P : Nat → σ → Prop) (c₀ : σ) (hL : env.locals = L)
    (F : Fr h₀ L s.heap m₀) (N : News h₀ L s.heap (Led c₀)) (hk : Known m₀ (ps c₀)) (hp : P 0 c₀)
    (turn : ∀ i (c : σ) t own u τ h tk, i < n → P i c → OwnOff own ((Led c).map (·.1)) → Fr h₀ L h (fun y => if y = x then some (.int (i : Int) t) else nm u τ (ps c) y) → News h₀ L h (Led c ++ own) →
      wpAny (model prog w) A (execs body env) (Turn h₀ L s (fun c' => Led c' ++ own) ps (fun c' => P (i + 1) c' ∧ OwnOff own ((Led c').map (·.1))) Q) Fa { s with heap := h, toks := tk })
    (done : ∀ (c : σ) m τ h tk, P (n) c → Fr h₀ L h (nm m τ (ps c)) → News h₀ L h (Led c) → Q .next { s with heap := h, toks := tk }) :
    IterA (model prog w) A (.Name x px) body env Q E (.ref r) s := by
  have hsz : Builtin.Range.rangeSize 0 (n : Int) 1 = (n : Int) := by unfold Builtin.Range.rangeSize; simp; omega
  unfold IterA
  refine wpAny_pyIter_range hr ?_ ?_
  · unfold Builtin.Range.small
    rw [hsz]
    simp [Builtin.Range.rangeFitsLong]
    omega
  rw [hsz]
  refine loopA (Walks.range hh _ 0 1 n) hx hsc (fun i h st => ⟨_, st⟩) Led (fun b hb => .inl (List.mem_singleton.mp hb)) ps P c₀ hL F N hk hp (by
      show Heap.get? _ _ = _
      simp only [Int.zero_add, Int.natCast_zero, Int.cast_ofNat_Int, Int.zero_mul, Int.sub_zero]
      exact Heap.get?_push_size _ rfl)
    (fun i c v own u τ h tk hi hv hP off F' N' => ?_) done
  obtain ⟨t, rfl⟩ := hv
  rw [show (0 : Int) + (i : Int) * 1 = (i : Int) by omega] at F'
  exact turn i c t own u τ h tk hi hP off F' N'
end
end Mine
end
section
theorem Mine.anewGb : True := by w_top off; trivial
namespace Mine
/-- the figures of a row of numbers -/
noncomputable def giL (size : Nat) : Nat → Nat → List Nat → List Nat
  | _, _, [] => []
  | k, b, d :: r => ggi b 0 d ++ giL size (k + 1) (adaptN d (k == 0) (size + k + 1)) r
/-- the bias behind the first numbers -/
noncomputable def biasL (size : Nat) : Nat → Nat → List Nat → Nat
  | _, b, [] => b
  | k, _, d :: r => biasL size (k + 1) (adaptN d (k == 0) (size + k + 1)) r
theorem giL_app (size : Nat) : ∀ (l r : List Nat) (k b : Nat), giL size k b (l ++ r) = giL size k b l ++ giL size (k + l.length) (biasL size k b l) r
  | [], r, k, b => by simp [giL, biasL]
  | d :: l, r, k, b => by
    simp only [List.cons_append, giL, biasL, List.length_cons]
    rw [giL_app size l r, List.append_assoc, show k + 1 + l.length = k + (l.length + 1) by omega]
theorem biasL_app (size : Nat) : ∀ (l : List Nat) (d k b : Nat), biasL size k b (l ++ [d]) = adaptN d (k + l.length == 0) (size + (k + l.length) + 1)
  | [], d, k, b => by simp [biasL]
  | e :: l, d, k, b => by
    simp only [List.cons_append, biasL, List.length_cons]
    rw [biasL_app size l d, show k + 1 + l.length = k + (l.length + 1) by omega]
theorem giL_len (size : Nat) : ∀ (l : List Nat) (k b : Nat), (∀ d ∈ l, d < 2 ^ 60) → (giL size k b l).length ≤ 61 * l.length
  | [], _, _, _ => by simp [giL]
  | d :: l, k, b, h => by
    simp only [giL, List.length_append, List.length_cons]
    have h1 := ggi_len b 60 0 d (h d (.head _))
    have h2 := giL_len size l (k + 1) (adaptN d (k == 0) (size + k + 1)) fun x hx => h x (.tail _ hx)
    omega
theorem digs_app (a b : List Nat) : digs (a ++ b) = digs a ++ digs b := by simp [digs]
/-- values that are natural numbers -/
noncomputable def NatsAre (vs : List Value) (ds : List Nat) : Prop := vs.length = ds.length ∧ ∀ (i d : Nat), ds[i]? = some d → ∃ t : Tok, vs[i]? = some (Value.int d t)
theorem gi_spec {prog : Program} {w : World} {A : Around} {s : Shared} {p : Program} {loose : List Str} {mean : ExcName → Option Value} {mg mb : Str → Option Value} {Q : Value → Shared → Prop}
    (X : (hd.heap_1 w.params).In s.heap) (T : Top p loose mean mg mb s.heap) (hdp : A.depth + 2 < recursionLimit) (hh : A.handled = none) (hg : A.guards = some [])
    {n : Nat} {u : Tok} {l : Addr} {vs : List Value} {ds : List Nat} (hl : s.heap.IsList l vs.toArray) (hv : NatsAre vs ds) (hd : ∀ d ∈ ds, d < 2 ^ 60) (hlen : ds.length ≤ 1000) (hn : n < 100000)
    (ret : ∀ t h' tk', Kp s.heap h' → Q (.bytes (digs (giL n 0 72 ds)) t) { s with heap := h', toks := tk' }) :
    wpC (model prog w) A (call (.ref 196) [.int n u, .ref l]) Q s := by
  k_dflt (refine' enterC ([(Str.ofString "baselen", .int n u), (Str.ofString "deltas", .ref l)]) X T (Ent.self _) ?k1 ?k2 (Nat.lt_of_le_of_lt (Nat.le_add_right _ _) hdp) ?k3 ?k4 ?k5 ?_ ?c1 ?c2 ?c3 ?c4; (case k1 => k_is); (case k2 => k_is); (case k3 => exact BindsTo.of_eq rfl); (case k4 => exact locs rfl); (case k5 => (dsimp only [List.map]; decide)); (case c1 => exact rfl); (case c2 => exact rfl); (case c3 => exact rfl); (case c4 => decide))
  intro L' h' u' tk' F' N'
  (try dsimp only)
  dsimp only [kstB] at F'
  refine wpC_execs_cons (wpC_Assign_Name (wpC_CallName0 ?_))
  k_steps
  refine ⟨Kept.type, call_bytearray hg fun a h₁ e1 e2 e3 => ?_⟩
  have F1 := Fr.kp (by assumption) e3
  have N1 := News.new (by assumption) N' e2 e1 e3
  k_steps
  dsimp only
  refine wpC_execs_any ?_
  k_steps
  dsimp only
  refine wpC_execs_cons (wpC_For_my ?_)
  k_steps
  refine enumC hh (by rfl) (by rfl) (by rfl) hl (fun c : List Nat => [(a, baObj (digs (giL n 0 72 c)))])
    (fun c => [(Str.ofString "baselen", .int n), (Str.ofString "deltas", .val (.ref l)), (Str.ofString "result", .val (.ref a)), (Str.ofString "bias", .int (biasL n 0 72 c))]) (fun i c => c = ds.take i) [] rfl (by assumption) (by assumption) ?hk rfl ?turn ?done
  case hk => exact Known.int (by with_unfolding_all rfl) rfl (Known.val (by with_unfolding_all rfl) rfl (Known.val (by with_unfolding_all rfl) rfl (Known.int (by with_unfolding_all rfl) rfl Known.nil)))
  case turn =>
    rintro i c t x own u τ h tk hx rfl off F' N'
    dsimp only [nm, V0.mk] at F'
    dsimp only [List.cons_append, List.nil_append, List.map_cons, List.map_nil] at N' off
    dsimp only
    have hi : i < ds.length := by have := (Array.getElem?_eq_some_iff.mp hx).1; simpa [hv.1] using this
    obtain ⟨t', ht'⟩ := hv.2 i ds[i] (by simp [hi])
    have ex : x = .int (ds[i] : Nat) t' := by have : vs[i]? = some x := by simpa using hx
                                              rw [ht'] at this; exact (Option.some.inj this).symm
    subst ex
    have hdi : ds[i] < 2 ^ 60 := hd _ (List.getElem_mem hi)
    refine wpC_execs_cons (wpC_Assign_Name (wpC_CallName ?_))
    k_steps
    rename Fr _ _ _ _ => F2
    refine ⟨Kept.fn (Frag.In.keeps X F2.keep) (by k_is), ggi_spec (A := A.deeper _) (Frag.In.keeps X F2.keep) (T.keeps F2.keep) (dep (m := 2) hdp (by decide)) hh hg hdi fun t2 h2 tk2 k2 => ?_⟩
    have F3 := Fr.kp F2 k2
    have N3 := News.kp (by assumption) k2
    k_steps
    dsimp only
    refine wpC_execs_cons (wpC_Expr (wpC_CallMeth ?_))
    k_steps
    have hl1 : (giL n 0 72 (ds.take i)).length ≤ 61 * 1000 := Nat.le_trans (giL_len n _ 0 72 fun d hd' => hd d (List.mem_of_mem_take hd')) (Nat.mul_le_mul_left 61 (Nat.le_trans (by rw [List.length_take]; exact Nat.min_le_right _ _) hlen))
    have hl2 := ggi_len (biasL n 0 72 (ds.take i)) 60 0 ds[i] hdi
    refine ⟨Kept.builtin, call_ba_extend hg (News.get (by assumption) (by k_mem)) (by rw [digs_size, digs_size]; exact Nat.le_trans (Nat.add_le_add hl1 hl2) (by decide)) fun h4 e1 e2 => ⟨rfl, ?_⟩⟩
    have F4 := Fr.other (by assumption) (by assumption) (by k_mem) e2
    have N4 := News.upd (by assumption) (by k_upd) e1 e2
    refine wpC_of ?_
    k_steps
    rename Fr _ _ _ _ => F5
    refine adapt_at (A := A.deeper _) (d := ds[i]) (n := n + i + 1) (Frag.In.keeps X F5.keep) (T.keeps F5.keep) (dep (m := 1) hdp (by decide)) hh rfl (by omega) hdi (by omega) fun r t6 h6 tk6 hr k6 => ?_
    subst hr
    have F6 := Fr.kp F5 k6
    have N6 := News.kp (by assumption) k6
    k_steps
    dsimp only
    have hds : ds.take (i + 1) = ds.take i ++ [ds[i]] := by rw [List.take_add_one]; simp [hi]
    refine End.intro (ds.take (i + 1)) (by assumption) (by assumption) ?_ (Known.int (by with_unfolding_all rfl) rfl (Known.val (by with_unfolding_all rfl) rfl (Known.val (by with_unfolding_all rfl) rfl (Known.int (by with_unfolding_all rfl) ?_ Known.nil)))) ⟨rfl, off⟩
    · intro p hp
      rw [hds, giL_app, digs_app] at hp
      simp only [giL, List.append_nil] at hp
      exact hp
    · rw [hds, biasL_app]
      simp only [List.length_take, Nat.min_eq_left (Nat.le_of_lt hi), Nat.zero_add]
      congr 2
      cases i <;> rfl
  case done =>
    rintro c m τ h tk rfl F' N'
    dsimp only [nm, V0.mk] at F'
    dsimp only at N' ⊢
    rw [show vs.toArray.size = ds.length by simpa using hv.1, List.take_length] at F' N'
    have hz : (digs (giL n 0 72 ds)).size ≤ sizeLine := by rw [digs_size]; have := giL_len n ds 0 72 hd; exact Nat.le_trans this (Nat.le_trans (Nat.mul_le_mul_left 61 hlen) (by decide))
    refine wpC_execs_any ?_
    k_steps
    dsimp only
    exact ret _ _ _ (Fr.keep (by assumption))
end Mine
end
end
section
namespace Mine
open LCg (NsObj lst)
section
variable {prog : Program} {w : World} {A : Around} {E : Value → Shared → Prop} {s : Shared} {env : Env} {h₀ : Heap} {L : Addr} {m : Str → Option Value} {σ : Type}
/-- the end of a comprehension's element (or of a test that fails) -/
noncomputable def CEnd (h₀ : Heap) (L : Addr) (m : Str → Option Value) (s : Shared) (own news : List (Addr × Obj)) (Tps : σ → List (Addr × Obj)) (R : σ → Value → Prop) (y : Value) (s₂ : Shared) : Prop :=
  ∃ (c' : σ) (h' : Heap) (tk : Nat) (news' : List (Addr × Obj)), s₂ = { s with heap := h', toks := tk } ∧ Fr h₀ L h' m ∧ News h₀ L h' news' ∧ (∀ p ∈ own ++ (Tps c' ++ news), p ∈ news') ∧ R c' y
theorem CEnd.intro {own news news' : List (Addr × Obj)} {Tps : σ → List (Addr × Obj)} {R : σ → Value → Prop} {y : Value} {h' : Heap} {tk : Nat} (c' : σ) (F : Fr h₀ L h' m) (N : News h₀ L h' news') (hl : ∀ p ∈ own ++ (Tps c' ++ news), p ∈ news') (hr : R c' y) :
    CEnd h₀ L m s own news Tps R y { s with heap := h', toks := tk } := ⟨c', h', tk, news', rfl, F, N, hl, hr⟩
/-- what is to be shown of a turn -/
noncomputable def CTurn (prog : Program) (w : World) (A : Around) (h₀ : Heap) (L : Addr) (m : Str → Option Value) (s : Shared) (env cenv : Env) (elt : Expr) (own news : List (Addr × Obj)) (Tps : σ → List (Addr × Obj)) (yes : σ → Value → Prop) (no : σ → Prop) (ok : Bool) (s₃ : Shared) : Prop :=
  if ok = true then wpAny (model prog w) A (eval elt cenv) (CEnd h₀ L m s own news Tps yes) Fa s₃ else CEnd h₀ L m s own news Tps (fun c' _ => no c') .none s₃
theorem comp_core {elt iter : Expr} {x : Str} {px : Pos} {ifs : List Expr} {scope : Scope} {cl : List (Str × Addr)} {pos : Pos} {I : Addr} {fp : List Addr} {n : Nat} {Pv : Nat → Value → Prop} {St : Nat → Heap → Prop} {Q : Value → Shared → Prop} {news : List (Addr × Obj)}
    (W : Walks prog w A I fp [I] n Pv St) (hsz : n ≤ sizeLine) (hIo : ∀ i h, St i h → ∃ o, h.get? I = some o ∧ o.cls ≠ .type "tuple")
    (hcell : ∀ y ∈ scope.names, y.2 ≠ .cell) (hkind : scope.kind = .function) (hx : scope.names.lookup x = some .local) (hst : St 0 s.heap) (hIlt : I < s.heap.objs.size) (hfp : ∀ b ∈ fp, b = I ∨ (∃ o, h₀.get? b = some o) ∨ ∃ o, (b, o) ∈ news)
    (F : Fr h₀ L s.heap m) (N : News h₀ L s.heap news) (hIL : L ≠ I) (hI₀ : h₀.get? I = none) (off : ∀ p ∈ news, p.1 ≠ I)
    (Tps : σ → List (Addr × Obj)) (hT : ∀ c, ∀ p ∈ Tps c, p.2.cls = .type "tuple" ∧ ∃ its k, p.2.data = .seq its k) (ys : σ → List Value) (P : Nat → σ → Prop) (c₀ : σ) (hT0 : Tps c₀ = []) (hy0 : ys c₀ = []) (hp0 : P 0 c₀) (hlen : ∀ i c, P i c → (ys c).length ≤ i)
    (turn : ∀ i (c : σ) v C oC D oI m₂ h tk, Pv i v → P i c → NsObj oC m₂ → m₂ x = some v → Fr h₀ L h m → News h₀ L h ((C, oC) :: (D, lst (ys c)) :: (I, oI) :: (Tps c ++ news)) →
      wpAny (model prog w) A (forIn ifs true fun c r => if r = true then do let ok ← isTrue c (compEnvC scope cl C env) (eval c (compEnvC scope cl C env)); pure (ForInStep.yield ok) else pure (ForInStep.yield r))
        (CTurn prog w A h₀ L m s env (compEnvC scope cl C env) elt [(C, oC), (D, lst (ys c)), (I, oI)] news Tps (fun c' y => ys c' = ys c ++ [y] ∧ P (i + 1) c') (fun c' => ys c' = ys c ∧ P (i + 1) c')) Fa { s with heap := h, toks := tk })
    (done : ∀ c D h tk, P n c → Fr h₀ L h m → News h₀ L h ((D, lst (ys c)) :: (Tps c ++ news)) → Q (.ref D) { s with heap := h, toks := tk }) :
    wpAny (model prog w) A (newList []) (fun acc s₃ => wpAny (model prog w) A (newFunctionEnv scope env.globals cl [] env.qual none .none (some env)) (fun cenv s₄ =>
      codeAny (model prog w) A (.compStart (.ListComp elt [⟨.Name x px, iter, ifs, 0⟩] scope pos) 0 (.ref I) acc { cenv with scope := relabel scope env }) (compPost (model prog w) A E none Q acc cenv.locals) s₄) E s₃) E s := by
  refine wpAny_newObj_type (wpAny_newFunctionEnv hcell (by intro y hy; simp at hy) (fun h₁ hns₁ hsb₁ => ?_) hkind)
  dsimp only at hns₁ hsb₁ ⊢
  generalize hH2 : s.heap.push { cls := .type "list", dict := none, data := .seq ([] : List Value).toArray } = H2 at hns₁ hsb₁ ⊢
  have hC : H2.objs.size = s.heap.objs.size + 1 := by rw [← hH2, Heap.size_push]
  have hDC : s.heap.objs.size ≠ H2.objs.size := by rw [hC]; exact Nat.ne_of_lt (Nat.lt_succ_self _)
  have below : ∀ b, b < s.heap.objs.size → b ≠ H2.objs.size ∧ b ≠ s.heap.objs.size := fun b hb => ⟨by rw [hC]; exact Nat.ne_of_lt (Nat.lt_succ_of_lt hb), Nat.ne_of_lt hb⟩
  have old : ∀ b o, s.heap.get? b = some o → h₁.get? b = some o := fun b o e => hsb₁.extBut b o (below b (Heap.lt_size e)).1 (Heap.get?_push_of_some _ (hH2 ▸ Heap.get?_push_of_some _ e))
  have hacc : h₁.get? s.heap.objs.size = some (lst []) := hsb₁.extBut _ _ hDC (Heap.get?_push_of_some _ (hH2 ▸ Heap.get?_push_size _ rfl))
  have hst₁ : St 0 h₁ := W.frame _ _ _ hst fun b _ o e => old b o e
  have fresh₀ : ∀ a, s.heap.objs.size ≤ a → h₀.get? a = none := fun a ha => by
    cases e : h₀.get? a with
    | none => rfl
    | some o' => exact absurd (Heap.lt_size (F.keep a o' e)) (Nat.not_lt.mpr ha)
  have hD₀ : h₀.get? s.heap.objs.size = none := fresh₀ _ (Nat.le_refl _)
  have hC₀ : h₀.get? H2.objs.size = none := fresh₀ _ (by rw [hC]; exact Nat.le_succ _)
  have hLlt : L < s.heap.objs.size := F.ns.lt
  have hDL : s.heap.objs.size ≠ L := Ne.symm (below L hLlt).2
  have hCL : H2.objs.size ≠ L := Ne.symm (below L hLlt).1
  have hCI : I ≠ H2.objs.size := (below I hIlt).1
  have hDI : I ≠ s.heap.objs.size := (below I hIlt).2
  have offN : ∀ p ∈ news, p.1 ≠ I ∧ p.1 ≠ H2.objs.size ∧ p.1 ≠ s.heap.objs.size := fun p hp => ⟨off p hp, (below _ (Heap.lt_size (N p hp).1)).1, (below _ (Heap.lt_size (N p hp).1)).2⟩
  have hLf : ∀ b ∈ fp, b ≠ H2.objs.size ∧ b ≠ s.heap.objs.size := fun b hb => by
    rcases hfp b hb with e | ⟨o, e⟩ | ⟨o, e⟩
    · rw [e]; exact ⟨hCI, hDI⟩
    · exact below b (Heap.lt_size (F.keep _ _ e))
    · exact (offN _ e).2
  have loop : ∀ s₃ : Shared, s₃ = { s with heap := h₁, toks := s.toks + ([] : List (Str × Value)).length } →
      codeAny (model prog w) A (.compLoop (.ListComp elt [⟨.Name x px, iter, ifs, 0⟩] scope pos) 0 (.ref I) (.ref s.heap.objs.size) (compEnvC scope cl H2.objs.size env))
        (compPost (model prog w) A E none Q (.ref s.heap.objs.size) H2.objs.size) s₃ := by
    rintro s₃ rfl
    refine codeAny_compLoop_tests
      (fun k s' => ∃ h' tk i c m', s' = { s with heap := h', toks := tk } ∧ i ≤ n ∧ k = n + 1 - i ∧ St i h' ∧ Fr h₀ L h' m ∧ h'.Ns H2.objs.size m' ∧ News h₀ L h' ((s.heap.objs.size, lst (ys c)) :: (Tps c ++ news)) ∧
        (∀ p ∈ Tps c, p.1 ≠ I ∧ p.1 ≠ H2.objs.size ∧ p.1 ≠ s.heap.objs.size) ∧ P i c) ?_ (n + 1)
      ⟨h₁, _, 0, c₀, _, rfl, Nat.zero_le _, rfl, hst₁, F.keeps old, hns₁, fun p hp => ?_, (by rw [hT0]; intro p hp; cases hp), hp0⟩
    · rintro k s' ⟨h', tk, i, c, m', rfl, hi, rfl, hst', F', hn', N', offT, hP⟩
      have offA : ∀ p ∈ Tps c ++ news, p.1 ≠ I ∧ p.1 ≠ H2.objs.size ∧ p.1 ≠ s.heap.objs.size := fun p hp => (List.mem_append.mp hp).elim (offT p) (offN p)
      by_cases hlt : i < n
      · refine W.item i _ _ _ hlt hst' fun v h₂ tk₂ hPv hst₂ hk₂ => ?_
        have hk₂' : ∀ b o, b ≠ I → h'.get? b = some o → h₂.get? b = some o := fun b o hb e => hk₂ b o (fun q => hb (List.mem_singleton.mp q)) e
        refine wpAny_assign_Name (wpAny_storeName_local (lookup_relabel_local hx) (hn'.at' fun o e => hk₂' _ o (Ne.symm hCI) e) (fun h₃ hn₃ hs₃ => ?_) (by simp [compEnvC, relabel, hkind]))
        have hst₃ : St (i + 1) h₃ := W.frame _ _ _ hst₂ fun b hb o e => hs₃.extBut b o (hLf b hb).1 e
        obtain ⟨oI, heI, hcI⟩ := hIo _ _ hst₃
        obtain ⟨oC, heC, hoC⟩ := LCg.ns_obj hn₃
        have F₃ : Fr h₀ L h₃ m := (LCg.fr_but F' hk₂ hIL hI₀).change hs₃ hCL hC₀
        have N₃ : News h₀ L h₃ ((H2.objs.size, oC) :: (s.heap.objs.size, lst (ys c)) :: (I, oI) :: (Tps c ++ news)) := fun p hp => by
          rcases List.mem_cons.mp hp with rfl | hp
          · exact ⟨heC, hCL, hC₀⟩
          · rcases List.mem_cons.mp hp with rfl | hp
            · have z := N' _ (.head _)
              exact ⟨hs₃.extBut _ _ hDC (hk₂' _ _ (Ne.symm hDI) z.1), z.2⟩
            · rcases List.mem_cons.mp hp with rfl | hp
              · exact ⟨heI, Ne.symm hIL, hI₀⟩
              · have z := N' p (.tail _ hp)
                exact ⟨hs₃.extBut _ _ (offA p hp).2.1 (hk₂' _ _ (offA p hp).1 z.1), z.2⟩
        refine wpAny_mono (turn i c v H2.objs.size oC s.heap.objs.size oI _ h₃ _ hPv hP hoC (by simp) F₃ N₃) (fun ok s₃ hok => ?_) fun _ _ e => e.elim
        have fin : ∀ {R : σ → Value → Prop} {y : Value} {s₄ : Shared}, CEnd h₀ L m s [(H2.objs.size, oC), (s.heap.objs.size, lst (ys c)), (I, oI)] news Tps R y s₄ → ∃ c' h₄ tk₄, s₄ = { s with heap := h₄, toks := tk₄ } ∧ R c' y ∧ St (i + 1) h₄ ∧ Fr h₀ L h₄ m ∧ (∃ m₄, h₄.Ns H2.objs.size m₄) ∧
            News h₀ L h₄ ((s.heap.objs.size, lst (ys c)) :: (Tps c' ++ news)) ∧ (∀ p ∈ Tps c', p.1 ≠ I ∧ p.1 ≠ H2.objs.size ∧ p.1 ≠ s.heap.objs.size) := by
          rintro R y s₄ ⟨c', h₄, tk₄, news₄, rfl, F₄, N₄, sub, hR⟩
          have zC := (N₄ (H2.objs.size, oC) (sub _ (.head _))).1
          have zD := (N₄ (s.heap.objs.size, lst (ys c)) (sub _ (.tail _ (.head _)))).1
          have zI := (N₄ (I, oI) (sub _ (.tail _ (.tail _ (.head _))))).1
          have sub' : ∀ p ∈ Tps c' ++ news, p ∈ news₄ := fun p hp => sub p (List.mem_append_right _ hp)
          refine ⟨c', h₄, tk₄, rfl, hR, W.frame _ _ _ hst₃ fun b hb o e => ?_, F₄, ⟨_, hoC.ns zC⟩, fun p hp => ?_, fun p hp => ?_⟩
          · rcases hfp b hb with q | ⟨o', q⟩ | ⟨o', q⟩
            · rw [q] at e ⊢; rw [heI] at e; cases e; exact zI
            · rw [F₃.keep _ _ q] at e; cases e; exact F₄.keep _ _ q
            · have z := (N₃ (b, o') (.tail _ (.tail _ (.tail _ (List.mem_append_right _ q))))).1
              dsimp only at z
              rw [z] at e; cases e
              exact (N₄ (b, _) (sub' _ (List.mem_append_right _ q))).1
          · rcases List.mem_cons.mp hp with rfl | hp
            · exact N₄ _ (sub _ (.tail _ (.head _)))
            · exact N₄ p (sub' p hp)
          · have zp := (N₄ p (sub' p (List.mem_append_left _ hp))).1
            obtain ⟨t1, its, k', t2⟩ := hT c' p hp
            refine ⟨fun q => ?_, fun q => ?_, fun q => ?_⟩
            · rw [q, zI] at zp; cases zp; exact hcI t1
            · rw [q, zC] at zp; cases zp
              obtain ⟨es, ep, hd, _⟩ := hoC
              rw [hd] at t2; cases t2
            · rw [q, zD] at zp
              have e := Option.some.inj zp
              rw [← e] at t1
              exact absurd (show Value.type "list" = Value.type "tuple" from t1) (by decide)
        cases ok with
        | false =>
          simp only [CTurn, Bool.false_eq_true, if_false] at hok ⊢
          obtain ⟨c', h₄, tk₄, rfl, ⟨hy, hP'⟩, hst₄, F₄, ⟨m₄, hn₄⟩, N₄, off₄⟩ := fin hok
          exact ⟨n + 1 - (i + 1), by omega, h₄, tk₄, i + 1, c', _, rfl, hlt, rfl, hst₄, F₄, hn₄, by rw [hy]; exact N₄, off₄, hP'⟩
        | true =>
          simp only [CTurn, if_true] at hok ⊢
          refine wpAny_mono hok (fun y s₄ h₄ => ?_) fun _ _ e => e.elim
          obtain ⟨c', h₄, tk₄, rfl, ⟨hy, hP'⟩, hst₄, F₄, ⟨m₄, hn₄⟩, N₄, off₄⟩ := fin h₄
          have off4 : ∀ p ∈ Tps c' ++ news, p.1 ≠ I ∧ p.1 ≠ H2.objs.size ∧ p.1 ≠ s.heap.objs.size := fun p hp => (List.mem_append.mp hp).elim (off₄ p) (offN p)
          refine append_at (hsz := by show (ys c).toArray.size ≤ sizeLine; rw [List.size_toArray]; exact Nat.le_trans (hlen i c hP) (Nat.le_trans hi hsz)) (N₄ _ (.head _)).1 fun h₅ hs₅ hD₅ => ?_
          refine ⟨n + 1 - (i + 1), by omega, h₅, tk₄, i + 1, c', _, rfl, hlt, rfl, W.frame _ _ _ hst₄ fun b hb o e => hs₅.extBut b o (hLf b hb).2 e, F₄.change hs₅ hDL hD₀, hn₄.sameBut hs₅ (Ne.symm hDC), fun p hp => ?_, off₄, hP'⟩
          rcases List.mem_cons.mp hp with rfl | hp
          · exact ⟨by rw [hy]; exact hD₅.trans (congrArg some (LCg.lst_snoc (ys c) y)), hDL, hD₀⟩
          · exact ⟨hs₅.extBut _ _ (off4 p hp).2.2 (N₄ p (.tail _ hp)).1, (N₄ p (.tail _ hp)).2⟩
      · obtain rfl : i = n := Nat.le_antisymm hi (Nat.not_lt.mp hlt)
        refine W.done _ _ _ hst' fun h₂ tk₂ hk₂ => ?_
        have hk₂' : ∀ b o, b ≠ I → h'.get? b = some o → h₂.get? b = some o := fun b o hb e => hk₂ b o (fun q => hb (List.mem_singleton.mp q)) e
        refine ⟨_, hn'.at' fun o e => hk₂' _ o (Ne.symm hCI) e, fun h₃ hs₃ => ?_⟩
        refine done c _ h₃ _ hP ((LCg.fr_but F' hk₂ hIL hI₀).change hs₃ hCL hC₀) fun p hp => ?_
        have z := N' p hp
        refine ⟨hs₃.extBut _ _ ?_ (hk₂' _ _ ?_ z.1), z.2⟩
        · rcases List.mem_cons.mp hp with rfl | hp
          · exact hDC
          · exact (offA p hp).2.1
        · rcases List.mem_cons.mp hp with rfl | hp
          · exact Ne.symm hDI
          · exact (offA p hp).1
    · rw [hT0, List.nil_append, hy0] at hp
      rcases List.mem_cons.mp hp with rfl | hp
      · exact ⟨hacc, hDL, hD₀⟩
      · exact ⟨old _ _ (N p hp).1, (N p hp).2⟩
  exact codeAny_compStart_list (loop _ rfl) (W.self 0 _ _ _ hst₁ (loop _ rfl))
/-- a comprehension's source is had -/
noncomputable def CompP (prog : Program) (w : World) (A : Around) (E : Value → Shared → Prop) (env : Env) (elt iter : Expr) (x : Str) (px : Pos) (ifs : List Expr) (scope : Scope) (cl : List (Str × Addr)) (pos : Pos) (Q : Value → Shared → Prop) (xv : Value) (s₁ : Shared) : Prop :=
  wpAny (model prog w) A (pyIter xv) (fun it s₂ => wpAny (model prog w) A (newList []) (fun acc s₃ => wpAny (model prog w) A (newFunctionEnv scope env.globals cl [] env.qual none .none (some env)) (fun cenv s₄ =>
    codeAny (model prog w) A (.compStart (.ListComp elt [⟨.Name x px, iter, ifs, 0⟩] scope pos) 0 it acc { cenv with scope := relabel scope env }) (compPost (model prog w) A E none Q acc cenv.locals) s₄) E s₃) E s₂) E s₁
theorem eval_comp {elt iter : Expr} {x : Str} {px : Pos} {ifs : List Expr} {scope : Scope} {cl : List (Str × Addr)} {pos : Pos} {Q : Value → Shared → Prop} (hclos : closureFor scope env = pure cl) (hkind : scope.kind = .function)
    (hnames : ∀ x ∈ scope.names, x.2 = .local → scope.names.lookup x.1 = some .local) (h : wpAny (model prog w) A (eval iter env) (CompP prog w A E env elt iter x px ifs scope cl pos Q) E s) (hs : ∀ x, foldedSetIterable iter env x = pure x := by intro _; rfl) :
    wpAny (model prog w) A (eval (.ListComp elt [⟨.Name x px, iter, ifs, 0⟩] scope pos) env) Q E s := by
  rw [eval_ListComp]
  exact wpAny_comprehension_free (use := none) rfl hs hclos hkind hnames h
section
variable {elt iter : Expr} {x : Str} {px : Pos} {ifs : List Expr} {scope : Scope} {cl : List (Str × Addr)} {pos : Pos} {Q : Value → Shared → Prop} {news : List (Addr × Obj)}
/-- a turn, told whole -/
abbrev TurnOf (prog : Program) (w : World) (A : Around) (h₀ : Heap) (L : Addr) (m : Str → Option Value) (s : Shared) (env : Env) (elt : Expr) (x : Str) (ifs : List Expr) (scope : Scope) (cl : List (Str × Addr)) (news : List (Addr × Obj)) (Tps : σ → List (Addr × Obj)) (ys : σ → List Value) (P : Nat → σ → Prop) (i : Nat) (c : σ) (v : Value) : Prop :=
  ∀ C oC D I oI m₂ h tk, NsObj oC m₂ → m₂ x = some v → Fr h₀ L h m → News h₀ L h ((C, oC) :: (D, lst (ys c)) :: (I, oI) :: (Tps c ++ news)) →
    wpAny (model prog w) A (forIn ifs true fun c r => if r = true then do let ok ← isTrue c (compEnvC scope cl C env) (eval c (compEnvC scope cl C env)); pure (ForInStep.yield ok) else pure (ForInStep.yield r))
      (CTurn prog w A h₀ L m s env (compEnvC scope cl C env) elt [(C, oC), (D, lst (ys c)), (I, oI)] news Tps (fun c' y => ys c' = ys c ++ [y] ∧ P (i + 1) c') (fun c' => ys c' = ys c ∧ P (i + 1) c')) Fa { s with heap := h, toks := tk }
theorem comp_push {fp : List Addr} {n : Nat} {Pv : Nat → Value → Prop} {St : Nat → Heap → Prop} {o : Obj}
    (W : Walks prog w A s.heap.objs.size fp [s.heap.objs.size] n Pv St) (hsz : n ≤ sizeLine) (hIo : ∀ i h, St i h → ∃ o, h.get? s.heap.objs.size = some o ∧ o.cls ≠ .type "tuple")
    (hcell : ∀ y ∈ scope.names, y.2 ≠ .cell) (hkind : scope.kind = .function) (hx : scope.names.lookup x = some .local) (hst : St 0 (s.heap.push o)) (hfp : ∀ b ∈ fp, b = s.heap.objs.size ∨ (∃ o, h₀.get? b = some o) ∨ ∃ o, (b, o) ∈ news)
    (F : Fr h₀ L s.heap m) (N : News h₀ L s.heap news)
    (Tps : σ → List (Addr × Obj)) (hT : ∀ c, ∀ p ∈ Tps c, p.2.cls = .type "tuple" ∧ ∃ its k, p.2.data = .seq its k) (ys : σ → List Value) (P : Nat → σ → Prop) (c₀ : σ) (hT0 : Tps c₀ = []) (hy0 : ys c₀ = []) (hp0 : P 0 c₀) (hlen : ∀ i c, P i c → (ys c).length ≤ i)
    (turn : ∀ i (c : σ) v, Pv i v → P i c → TurnOf prog w A h₀ L m s env elt x ifs scope cl news Tps ys P i c v)
    (done : ∀ c D h tk, P n c → Fr h₀ L h m → News h₀ L h ((D, lst (ys c)) :: (Tps c ++ news)) → Q (.ref D) { s with heap := h, toks := tk }) :
    wpAny (model prog w) A (newList []) (fun acc s₃ => wpAny (model prog w) A (newFunctionEnv scope env.globals cl [] env.qual none .none (some env)) (fun cenv s₄ =>
      codeAny (model prog w) A (.compStart (.ListComp elt [⟨.Name x px, iter, ifs, 0⟩] scope pos) 0 (.ref s.heap.objs.size) acc { cenv with scope := relabel scope env }) (compPost (model prog w) A E none Q acc cenv.locals) s₄) E s₃) E { s with heap := s.heap.push o } := by
  have hL : L ≠ s.heap.objs.size := Nat.ne_of_lt F.ns.lt
  refine comp_core (s := { s with heap := s.heap.push o }) W hsz hIo hcell hkind hx hst (by show _ < (s.heap.push o).objs.size; rw [Heap.size_push]; exact Nat.lt_succ_self _) hfp (F.push _) (fun p hp => ⟨Heap.get?_push_of_some _ (N p hp).1, (N p hp).2⟩) hL
    (Heap.get?_none_of_le (Nat.le_trans F.above (Nat.le_of_lt F.ns.lt))) (fun p hp => Nat.ne_of_lt (Heap.lt_size (N p hp).1)) Tps hT ys P c₀ hT0 hy0 hp0 hlen
    (fun i c v C oC D oI m₂ h tk hPv hP hoC hm F' N' => turn i c v hPv hP C oC D _ oI m₂ h tk hoC hm F' N') done
theorem compList {l : Addr} {items : Array Value} (hh : A.handled = none) (hl : s.heap.IsList l items) (hfp : (∃ o, h₀.get? l = some o) ∨ ∃ o, (l, o) ∈ news) (hsz : items.size ≤ sizeLine)
    (hcell : ∀ y ∈ scope.names, y.2 ≠ .cell) (hkind : scope.kind = .function) (hx : scope.names.lookup x = some .local) (F : Fr h₀ L s.heap m) (N : News h₀ L s.heap news)
    (Tps : σ → List (Addr × Obj)) (hT : ∀ c, ∀ p ∈ Tps c, p.2.cls = .type "tuple" ∧ ∃ its k, p.2.data = .seq its k) (ys : σ → List Value) (P : Nat → σ → Prop) (c₀ : σ) (hT0 : Tps c₀ = []) (hy0 : ys c₀ = []) (hp0 : P 0 c₀) (hlen : ∀ i c, P i c → (ys c).length ≤ i)
    (turn : ∀ i (c : σ) v, items[i]? = some v → P i c → TurnOf prog w A h₀ L m s env elt x ifs scope cl news Tps ys P i c v)
    (done : ∀ c D h tk, P items.size c → Fr h₀ L h m → News h₀ L h ((D, lst (ys c)) :: (Tps c ++ news)) → Q (.ref D) { s with heap := h, toks := tk }) :
    CompP prog w A E env elt iter x px ifs scope cl pos Q (.ref l) s := by
  have hne : l ≠ s.heap.objs.size := Nat.ne_of_lt (list_lt hl)
  unfold CompP
  refine wpAny_pyIter_list hl ?_
  refine comp_push (Walks.list hh _ l hne items) hsz (fun i h st => let ⟨o, ho, hc, _⟩ := st.1; ⟨o, ho, by rw [hc]; decide⟩) hcell hkind hx ⟨⟨_, Heap.get?_push_size _ rfl, rfl, rfl⟩, hl.at fun o e => Heap.get?_push_of_some _ e⟩ (fun b hb => ?_) F N Tps hT ys P c₀ hT0 hy0 hp0 hlen turn done
  simp only [List.mem_cons, List.not_mem_nil, or_false] at hb
  rcases hb with rfl | rfl
  · exact .inl rfl
  · exact .inr hfp
theorem compRange {r : Addr} {n : Nat} {t1 t2 t3 : Tok} (hh : A.handled = none) (hr : IsRange s.heap r 0 n 1 t1 t2 t3) (hn : n ≤ sizeLine)
    (hcell : ∀ y ∈ scope.names, y.2 ≠ .cell) (hkind : scope.kind = .function) (hx : scope.names.lookup x = some .local) (F : Fr h₀ L s.heap m) (N : News h₀ L s.heap news)
    (Tps : σ → List (Addr × Obj)) (hT : ∀ c, ∀ p ∈ Tps c, p.2.cls = .type "tuple" ∧ ∃ its k, p.2.data = .seq its k) (ys : σ → List Value) (P : Nat → σ → Prop) (c₀ : σ) (hT0 : Tps c₀ = []) (hy0 : ys c₀ = []) (hp0 : P 0 c₀) (hlen : ∀ i c, P i c → (ys c).length ≤ i)
    (turn : ∀ i (c : σ) t, i < n → P i c → TurnOf prog w A h₀ L m s env elt x ifs scope cl news Tps ys P i c (.int (i : Int) t))
    (done : ∀ c D h tk, P n c → Fr h₀ L h m → News h₀ L h ((D, lst (ys c)) :: (Tps c ++ news)) → Q (.ref D) { s with heap := h, toks := tk }) :
    CompP prog w A E env elt iter x px ifs scope cl pos Q (.ref r) s := by
  have hsl : n ≤ 2 ^ 24 := hn
  have hsz : Builtin.Range.rangeSize 0 (n : Int) 1 = (n : Int) := by unfold Builtin.Range.rangeSize; simp; omega
  unfold CompP
  refine wpAny_pyIter_range hr ?_ ?_
  · unfold Builtin.Range.small
    rw [hsz]
    simp [Builtin.Range.rangeFitsLong]
    omega
  rw [hsz]
  have W := (Walks.range (prog := prog) (w := w) hh s.heap.objs.size 0 1 n).bound
  refine comp_push W hn (fun i h st => ⟨_, st, by show Value.type "range_iterator" ≠ Value.type "tuple"; decide⟩) hcell hkind hx (by
      show Heap.get? _ _ = _
      simp only [Int.zero_add, Int.cast_ofNat_Int, Int.zero_mul, Int.sub_zero]
      exact Heap.get?_push_size _ rfl) (fun b hb => .inl (List.mem_singleton.mp hb)) F N Tps hT ys P c₀ hT0 hy0 hp0 hlen (fun i c v hv hP => ?_) done
  obtain ⟨hi, t, rfl⟩ := hv
  rw [show (0 : Int) + (i : Int) * 1 = (i : Int) by omega]
  exact turn i c t hi hP
end
end
end Mine
end
local macro_rules | `(tactic| walk_at "eval ListComp") => `(tactic| (k_here; k_dflt (refine' Mine.eval_comp ?a ?b ?c ?_; (case a => rfl); (case b => rfl); (case c => decide))))
section
namespace Mine
abbrev st (l : List Nat) : Str := ⟨l.toArray⟩
theorem st_len (l : List Nat) : (st l).length = l.length := by simp [Str.length]
theorem len_st {prog : Program} {w : World} {A : Around} {E : Value → Shared → Prop} {s : Shared} {l : List Nat} {t : Tok} {Q : Value → Shared → Prop} (hz : l.length ≤ 2 ^ 40) (h : Q (.int (l.length : Int) (s.toks + 1)) { s with toks := s.toks + 1 + 1 }) :
    wpAny (model prog w) A (call (.builtin "len") [.str (st l) t]) Q E s := PyProof.Rows.len_str (by rw [st_len]; omega) (by rw [st_len]; exact h)
theorem st_app (a b : List Nat) : st a ++ st b = st (a ++ b) := by
  show (⟨(st a).cps ++ (st b).cps⟩ : Str) = _
  simp
theorem add_at {prog : Program} {w : World} {A : Around} {E : Value → Shared → Prop} {s : Shared} {x y : Str} {a b : List Nat} {t u : Tok} {Q : Value → Shared → Prop} (hx : x = st a) (hy : y = st b) (hz : a.length + b.length ≤ 2 ^ 24)
    (h : ∀ t' tk, Q (.str (st (a ++ b)) t') { s with toks := tk }) : wpAny (model prog w) A (binaryOp .Add (.str x t) (.str y u)) Q E s := by
  subst hx hy
  refine PyProof.Rows.add_str (fun t' tk => by rw [st_app]; exact h t' tk) (by rw [st_len, st_len]; exact hz)
theorem slice_to_st {l : List Nat} {k : Nat} {j : Int} (e : j = (k : Int)) (h : k ≤ l.length) : Txt.slice (st l) none (some j) = st (l.take k) := by
  subst e
  have := slice_closes_toL (x := st l) (j := (k : Int)) (by omega) (by rw [st_len]; omega)
  rw [eq_of_beq this]
  simp
theorem slice_from_st {l : List Nat} {k : Nat} {j : Int} (e : j = (k : Int)) (h : k ≤ l.length) : Txt.slice (st l) (some j) none = st (l.drop k) := by
  subst e
  have := slice_closes_fromL (x := st l) (i := (k : Int)) (b := (l.length : Int)) (by omega) (by rw [st_len]; omega) (by rw [st_len])
  rw [eq_of_beq this]
  show (⟨(List.take ((l.length : Int) - (k : Int)).toNat (List.drop (k : Int).toNat l)).toArray⟩ : Str) = _
  rw [Int.toNat_natCast, List.take_of_length_le (by rw [List.length_drop]; omega)]
end Mine
end
section
theorem Mine.anewSg : True := by w_top off; trivial
namespace Mine
open LCg (NsObj lst)
/-- one-sign texts -/
noncomputable def SignVals (vs : List Value) (cs : List Nat) : Prop := vs.length = cs.length ∧ ∀ (i c : Nat), cs[i]? = some c → ∃ t : Tok, vs[i]? = some (Value.str (st [c]) t)
/-- a row of signs: a text, or a list of one-sign texts -/
noncomputable def Sg (h : Heap) (v : Value) (cs : List Nat) : Prop := (∃ t, v = .str (st cs) t) ∨ ∃ a vs, v = .ref a ∧ h.IsList a vs.toArray ∧ SignVals vs cs
theorem Sg.kp {h h' : Heap} {v : Value} {cs : List Nat} (x : Sg h v cs) (k : Kp h h') : Sg h' v cs := by
  rcases x with x | ⟨a, vs, e, hl, hv⟩
  · exact .inl x
  · exact .inr ⟨a, vs, e, hl.at fun o e => k _ o e, hv⟩
theorem SignVals.nil : SignVals [] [] := ⟨rfl, fun i c h => by simp at h⟩
theorem SignVals.snoc {vs : List Value} {cs : List Nat} {c : Nat} {t : Tok} (h : SignVals vs cs) : SignVals (vs ++ [.str (st [c]) t]) (cs ++ [c]) := by
  refine ⟨by simp [h.1], fun i d hd => ?_⟩
  by_cases hi : i < cs.length
  · rw [List.getElem?_append_left hi] at hd
    obtain ⟨u, hu⟩ := h.2 i d hd
    exact ⟨u, by rw [List.getElem?_append_left (by rw [h.1]; exact hi)]; exact hu⟩
  · have e : i = cs.length := by
      have := (List.getElem?_eq_some_iff.mp hd).1
      simp at this; omega
    subst e
    simp at hd
    subst hd
    exact ⟨t, by rw [← h.1]; simp⟩
section
variable {prog : Program} {w : World} {A : Around} {E : Value → Shared → Prop} {s : Shared} {env : Env} {h₀ : Heap} {L : Addr} {m : Str → Option Value} {σ : Type}
variable {elt iter : Expr} {x : Str} {px : Pos} {ifs : List Expr} {scope : Scope} {cl : List (Str × Addr)} {pos : Pos} {Q : Value → Shared → Prop} {news : List (Addr × Obj)}
theorem compStr {cs : List Nat} {tb : Tok} (hh : A.handled = none) (hsz : cs.length ≤ sizeLine)
    (hcell : ∀ y ∈ scope.names, y.2 ≠ .cell) (hkind : scope.kind = .function) (hx : scope.names.lookup x = some .local) (F : Fr h₀ L s.heap m) (N : News h₀ L s.heap news)
    (Tps : σ → List (Addr × Obj)) (hT : ∀ c, ∀ p ∈ Tps c, p.2.cls = .type "tuple" ∧ ∃ its k, p.2.data = .seq its k) (ys : σ → List Value) (P : Nat → σ → Prop) (c₀ : σ) (hT0 : Tps c₀ = []) (hy0 : ys c₀ = []) (hp0 : P 0 c₀) (hlen : ∀ i c, P i c → (ys c).length ≤ i)
    (turn : ∀ i (c : σ) k t, cs[i]? = some k → P i c → TurnOf prog w A h₀ L m s env elt x ifs scope cl news Tps ys P i c (.str (st [k]) t))
    (done : ∀ c D h tk, P cs.length c → Fr h₀ L h m → News h₀ L h ((D, lst (ys c)) :: (Tps c ++ news)) → Q (.ref D) { s with heap := h, toks := tk }) :
    CompP prog w A E env elt iter x px ifs scope cl pos Q (.str (st cs) tb) s := by
  have go : ∀ (i : Nat) (c : σ) v, SignAt (st cs) i v → P i c → TurnOf prog w A h₀ L m s env elt x ifs scope cl news Tps ys P i c v := by
    rintro i c v ⟨k, t, hk, rfl⟩ hP
    exact turn i c k t (by simpa using hk) hP
  have hlen' : (st cs).cps.size = cs.length := by simp
  have hsz' : (st cs).cps.size ≤ sizeLine := by rw [hlen']; exact hsz
  unfold CompP
  cases ha : (st cs).cps.all (· < 128)
  · refine wpAny_pyIter_wide ha ?_
    exact comp_push (Walks.strWide hh _ (st cs) tb) hsz' (fun i h st => let ⟨o, ho, hc, _⟩ := st; ⟨o, ho, by rw [hc]; decide⟩) hcell hkind hx ⟨_, Heap.get?_push_size _ rfl, rfl, rfl⟩ (fun b hb => .inl (List.mem_singleton.mp hb)) F N Tps hT ys P c₀ hT0 hy0 hp0 hlen go (by rw [hlen']; exact done)
  · refine wpAny_pyIter_ascii ha ?_
    exact comp_push (Walks.strAscii hh _ (st cs) tb) hsz' (fun i h st => let ⟨o, ho, hc, _⟩ := st; ⟨o, ho, by rw [hc]; decide⟩) hcell hkind hx ⟨_, Heap.get?_push_size _ rfl, rfl, rfl⟩ (fun b hb => .inl (List.mem_singleton.mp hb)) F N Tps hT ys P c₀ hT0 hy0 hp0 hlen go (by rw [hlen']; exact done)
/-- a comprehension over signs -/
theorem compSg {cs : List Nat} {v : Value} (hv : Sg h₀ v cs) (hh : A.handled = none) (hsz : cs.length ≤ sizeLine)
    (hcell : ∀ y ∈ scope.names, y.2 ≠ .cell) (hkind : scope.kind = .function) (hx : scope.names.lookup x = some .local) (F : Fr h₀ L s.heap m) (N : News h₀ L s.heap news)
    (Tps : σ → List (Addr × Obj)) (hT : ∀ c, ∀ p ∈ Tps c, p.2.cls = .type "tuple" ∧ ∃ its k, p.2.data = .seq its k) (ys : σ → List Value) (P : Nat → σ → Prop) (c₀ : σ) (hT0 : Tps c₀ = []) (hy0 : ys c₀ = []) (hp0 : P 0 c₀) (hlen : ∀ i c, P i c → (ys c).length ≤ i)
    (turn : ∀ i (c : σ) k t, cs[i]? = some k → P i c → TurnOf prog w A h₀ L m s env elt x ifs scope cl news Tps ys P i c (.str (st [k]) t))
    (done : ∀ c D h tk, P cs.length c → Fr h₀ L h m → News h₀ L h ((D, lst (ys c)) :: (Tps c ++ news)) → Q (.ref D) { s with heap := h, toks := tk }) :
    CompP prog w A E env elt iter x px ifs scope cl pos Q v s := by
  rcases hv with ⟨t, rfl⟩ | ⟨a, vs, rfl, hl, hvs⟩
  · exact compStr hh hsz hcell hkind hx F N Tps hT ys P c₀ hT0 hy0 hp0 hlen turn done
  · have hs : vs.toArray.size = cs.length := by simpa using hvs.1
    refine compList hh (hl.at fun o e => F.keep _ o e) (.inl (let ⟨o, ho, _⟩ := hl; ⟨o, ho⟩)) (by rw [hs]; exact hsz) hcell hkind hx F N Tps hT ys P c₀ hT0 hy0 hp0 hlen (fun i c u hu hP => ?_) (by rw [hs]; exact done)
    have hi : i < cs.length := by have := (Array.getElem?_eq_some_iff.mp hu).1; omega
    obtain ⟨t, ht⟩ := hvs.2 i cs[i] (by simp [hi])
    have e : vs[i]? = some u := by simpa using hu
    rw [ht] at e
    cases e
    exact turn i c cs[i] t (by simp [hi]) hP
end
theorem bare_spec {prog : Program} {w : World} {A : Around} {s : Shared} {p : Program} {loose : List Str} {mean : ExcName → Option Value} {mg mb : Str → Option Value} {Q E : Value → Shared → Prop}
    (X : (hd.heap_1 w.params).In s.heap) (T : Top p loose mean mg mb s.heap) (hdp : A.depth + 1 < recursionLimit) (hh : A.handled = none)
    {v : Value} {cs : List Nat} (hv : Sg s.heap v cs) (hn : cs.length ≤ 100000)
    (ret : ∀ D ys h' tk', Kp s.heap h' → s.heap.get? D = none → h'.get? D = some (lst ys) → SignVals ys (cs.filter (· < 128)) → Q (.ref D) { s with heap := h', toks := tk' }) :
    wpAny (model prog w) A (call (.ref 229) [v]) Q E s := by
  k_dflt (refine' enter ([(Str.ofString "signs", v)]) X T (Ent.self _) ?k1 ?k2 (Nat.lt_of_le_of_lt (Nat.le_add_right _ _) hdp) ?k3 ?k4 ?k5 ?_ ?c1 ?c2 ?c3 ?c4; (case k1 => k_is); (case k2 => k_is); (case k3 => exact BindsTo.of_eq rfl); (case k4 => exact locs rfl); (case k5 => (dsimp only [List.map]; decide)); (case c1 => exact rfl); (case c2 => exact rfl); (case c3 => exact rfl); (case c4 => decide))
  intro L' h' u' tk' F' N'
  (try dsimp only)
  dsimp only [kstB] at F'
  refine wpAny_mono (E := Fa) ?_ (fun _ _ x => x) (fun _ _ x => x.elim)
  k_steps
  rename Fr _ _ _ _ => F2
  refine compSg hv hh (Nat.le_trans hn (by decide)) (by decide) rfl (by rfl) F2 News.nil (fun _ => []) (fun _ _ h => nomatch h) (fun c : List Value => c) (fun i c => SignVals c ((cs.take i).filter (· < 128)) ∧ c.length ≤ i) [] rfl rfl ⟨SignVals.nil, Nat.le_refl _⟩ (fun _ _ h => h.2) ?_ ?_
  · rintro i c k t hk ⟨hc1, hc2⟩ C oC D I oI m₂ h tk hoC hm F' N'
    refine wpAny_tests_one ?_
    k_steps
    have hi : i < cs.length := (List.getElem?_eq_some_iff.mp hk).1
    have htk : cs.take (i + 1) = cs.take i ++ [k] := by rw [List.take_add_one, hk]; rfl
    unfold CTurn
    by_cases hlt : k < 128
    · rw [if_pos (decide_eq_true (by omega))]
      k_steps
      refine CEnd.intro (c ++ [.str (st [k]) t]) (by assumption) (by assumption) (fun p hp => by simpa using hp) ⟨rfl, ?_, by simp; omega⟩
      have e : List.filter (fun x => decide (x < 128)) [k] = [k] := by simp [hlt]
      rw [htk, List.filter_append, e]
      exact hc1.snoc
    · rw [if_neg (by rw [decide_eq_false (by omega)]; exact Bool.false_ne_true)]
      refine CEnd.intro c (by assumption) (by assumption) (fun p hp => by simpa using hp) ⟨rfl, ?_, by omega⟩
      have e : List.filter (fun x => decide (x < 128)) [k] = [] := by simp; omega
      rw [htk, List.filter_append, e, List.append_nil]
      exact hc1
  · rintro c D h tk ⟨hc1, hc2⟩ F' N'
    rw [List.take_length] at hc1
    dsimp only
    exact ret D c h tk (Fr.keep F') (News.fresh N' (.head _)) (News.get N' (.head _)) hc1
end Mine
end
section
local macro_rules | `(tactic| walk_at "zz0") => `(tactic| skip)
theorem Mine.anewWr : True := by w_top off; trivial
namespace Mine
/-- a sign as it is written -/
noncomputable def esc (c : Nat) : List Nat := if c = 38 then [38, 97, 109, 112, 59] else if c = 60 then [38, 108, 116, 59] else if c = 62 then [38, 103, 116, 59] else if c = 13 then [38, 35, 120, 68, 59] else [c]
theorem st_one {c d : Nat} : (st [c] = st [d]) ↔ c = d := by simp
theorem written_spec {prog : Program} {w : World} {A : Around} {s : Shared} {p : Program} {loose : List Str} {mean : ExcName → Option Value} {mg mb : Str → Option Value} {Q E : Value → Shared → Prop}
    (X : (hd.heap_1 w.params).In s.heap) (T : Top p loose mean mg mb s.heap) (hdp : A.depth + 0 < recursionLimit) (hh : A.handled = none)
    {c : Nat} {t : Tok} (ret : ∀ t' h' tk', Kp s.heap h' → Q (.str (st (esc c)) t') { s with heap := h', toks := tk' }) :
    wpAny (model prog w) A (call (.ref 236) [.str (st [c]) t]) Q E s := by
  k_dflt (refine' enter ([(Str.ofString "sign", .str (st [c]) t)]) X T (Ent.self _) ?k1 ?k2 (Nat.lt_of_le_of_lt (Nat.le_add_right _ _) hdp) ?k3 ?k4 ?k5 ?_ ?c1 ?c2 ?c3 ?c4; (case k1 => k_is); (case k2 => k_is); (case k3 => exact BindsTo.of_eq rfl); (case k4 => exact locs rfl); (case k5 => (dsimp only [List.map]; decide)); (case c1 => exact rfl); (case c2 => exact rfl); (case c3 => exact rfl); (case c4 => decide))
  intro L' h' u' tk' F' N'
  (try dsimp only)
  dsimp only [kstB] at F'
  refine wpAny_mono (E := Fa) ?_ (fun _ _ x => x) (fun _ _ x => x.elim)
  have h38 : (st [c] == Str.ofString "&") = decide (c = 38) := by rw [show Str.ofString "&" = st [38] by decide, Bool.eq_iff_iff, beq_iff_eq, decide_eq_true_eq]; exact st_one
  have h60 : (st [c] == Str.ofString "<") = decide (c = 60) := by rw [show Str.ofString "<" = st [60] by decide, Bool.eq_iff_iff, beq_iff_eq, decide_eq_true_eq]; exact st_one
  have h62 : (st [c] == Str.ofString ">") = decide (c = 62) := by rw [show Str.ofString ">" = st [62] by decide, Bool.eq_iff_iff, beq_iff_eq, decide_eq_true_eq]; exact st_one
  have h13 : (st [c] == Str.ofString "\r") = decide (c = 13) := by rw [show Str.ofString "\r" = st [13] by decide, Bool.eq_iff_iff, beq_iff_eq, decide_eq_true_eq]; exact st_one
  have fin : ∀ {x : Str} {t' h' tk'}, x = st (esc c) → Kp s.heap h' → Q (.str x t') { s with heap := h', toks := tk' } := fun e k => by rw [e]; exact ret _ _ _ k
  k_steps
  all_goals (dsimp only; refine fin ?_ (Fr.keep (by assumption)))
  all_goals simp only [h38, h60, h62, h13, decide_eq_true_eq, decide_eq_false_iff_not] at *
  · subst c; decide
  · subst c; decide
  · subst c; decide
  · subst c; decide
  · unfold esc; simp [*]
end Mine
end
section
set_option maxHeartbeats 4000000
namespace Mine
/-- a built-in method with its object -/
abbrev bmObj (id : String) (v : Value) : Obj := { cls := .type "builtin_function_or_method", data := .fields #[.builtin id, v] }
theorem md_get : typeLookup (.type "method_descriptor") (Str.ofString "__get__") = pure (some (.builtin "method_descriptor.__get__")) := by rw [typeLookup_type, builtinLookup_eq_fast]; kernel_rfl
theorem md_set : typeLookup (.type "method_descriptor") (Str.ofString "__set__") = pure none := by rw [typeLookup_type, builtinLookup_eq_fast]; kernel_rfl
theorem md_del : typeLookup (.type "method_descriptor") (Str.ofString "__delete__") = pure none := by rw [typeLookup_type, builtinLookup_eq_fast]; kernel_rfl
theorem md_slot : Slot "method_descriptor" "__get__" "method_descriptor.__get__" :=
  .of (owner := "method_descriptor") (n := "__get__") (by rw [typeLookup_type, builtinLookup_eq_fast]; kernel_rfl) (by decide +kernel) (by decide +kernel) (by decide +kernel)
    (by first | exact .inl (by decide +kernel) | exact .inr (by decide +kernel)) (by rw [isSubtype_type]; kernel_rfl)
theorem md_entry : entryFor table "method_descriptor.__get__" = some Builtin.«method_descriptor.__get__» := entryFor_of_tree (by kernel_rfl)
theorem md_args (a b c : Value) : argsOk "method_descriptor.__get__" ⟨[a, b, c], []⟩ := by unfold argsOk; kernel_rfl
theorem md_call {prog : Program} {w : World} {A : Around} {R : Result → Shared → Prop} {hp : Heap} {g d tk os} {a : Addr} {o : Obj} (hx : Heap.get? hp a = some o) (hc : o.cls = .type "list")
    (h : R (.ok (.ret (.ref hp.objs.size))) ⟨hp.push (bmObj "list.append" (.ref a)), g, d, tk, os⟩) :
    codeAny (model prog w) A (.call (.builtin "method_descriptor.__get__") ⟨[.builtin "list.append", .ref a, .type "list"], []⟩) R ⟨hp, g, d, tk, os⟩ := by
  refine codeAny_call_builtin md_slot.plain md_entry (md_slot.check _ _ _ _ _ _ _ _ F.type_list_append (md_args _ _ _) ?_)
  have e1 : Manifest.toldItsClass.contains "list.append" = false := by decide +kernel
  unfold Builtin.«method_descriptor.__get__»
  refine wpAny_bind (wpAny_of_eq (a := (.builtin "list.append", some (.ref a), some (.type "list"))) (by first | rfl | kernel_rfl) ?_)
  dsimp only
  rw [e1, if_neg Bool.false_ne_true]
  show wpAny _ _ ((kfb_private% "checkInstance") (.builtin "list.append") (.ref a) >>= fun _ => (newFields "builtin_function_or_method" [.builtin "list.append", .ref a] >>= fun v => ret v)) _ _ _
  refine wpAny_bind ?_
  have e2 : (kfb_private% "nameAndClass") (.builtin "list.append") = pure (Str.ofString "append", Value.type "list") := by kernel_rfl
  have e3 : isSubtype (.type "list") (.type "list") = pure true := by rw [isSubtype_type]; kernel_rfl
  have hT : (⟨hp, g, d, tk, os⟩ : Shared).TypeIs (.ref a) "list" := ⟨_, hx, hc⟩
  show wpAny _ _ ((kfb_private% "nameAndClass") (.builtin "list.append") >>= fun p => (isInstance (.ref a) p.2 >>= fun b => if (!b) = true then _ else pure ())) _ _ _
  refine wpAny_bind (wpAny_of_eq e2 ?_)
  unfold isInstance
  dsimp only
  repeat (any_goals (first | assumption | (with_reducible (first | refine wpAny_bind ?_ | refine wpAny_pure ?_ | refine wpAny_holding ?_ | refine wpAny_standAt ?_ | refine wpAny_point ?_ | refine wpAny_of_eq (by assumption) ?_ | refine wpAny_typeOf (by assumption) ?_ | refine wpAny_specialOf_val (by assumption) (by assumption) ?_ | refine wpAny_specialOf (by assumption) (by assumption) ?_ | refine wpAny_isInstance_val (by assumption) (by assumption) ?_ | refine wpAny_isInstance (by assumption) (by assumption) ?_ | ((show wpAny _ _ (mkStr _) _ _ _); refine wpAny_mkStr' ?_) | ((show wpAny _ _ (mkInt _) _ _ _); refine wpAny_mkInt' ?_) | refine wpAny_letGo ?_ | refine wpAny_throw ?_ | refine wpAny_attempt ?_)) | wp_delta | wp_step))
theorem meets_append_get (a : Addr) (xs : Array Value) (k : Nat) (sl : Array (Option Value)) (u : Tok) :
    Meets (Builtin.«object.__getattribute__» ⟨[.ref a, .str (Str.ofString "append") u], []⟩) (fun A R s => s.heap.get? a = some { cls := .type "list", dict := none, data := .seq xs k, slots := sl } ∧ R (.ok (.ret (.ref s.heap.objs.size))) { s with heap := s.heap.push (bmObj "list.append" (.ref a)) }) :=
  Meets.of_wp fun prog w A R s hs => by
    obtain ⟨hp, g, d, tk, os⟩ := s
    obtain ⟨hx, hs⟩ := hs
    have hT : (⟨hp, g, d, tk, os⟩ : Shared).TypeIs (.ref a) "list" := ⟨_, hx, rfl⟩
    have f1 := F.slot_list_append.lookup
    have f2 := F.type_list_append
    have f3 := md_get
    have f4 := md_set
    have f5 := md_del
    unfold Builtin.«object.__getattribute__»
    repeat (any_goals (first | assumption | (with_reducible (first | refine wpAny_bind ?_ | refine wpAny_pure ?_ | refine wpAny_holding ?_ | refine wpAny_standAt ?_ | refine wpAny_point ?_ | refine wpAny_of_eq (by assumption) ?_ | refine wpAny_typeOf (by assumption) ?_ | refine wpAny_specialOf_val (by assumption) (by assumption) ?_ | refine wpAny_specialOf (by assumption) (by assumption) ?_ | refine wpAny_isInstance_val (by assumption) (by assumption) ?_ | refine wpAny_isInstance (by assumption) (by assumption) ?_ | ((show wpAny _ _ (mkStr _) _ _ _); refine wpAny_mkStr' ?_) | ((show wpAny _ _ (mkInt _) _ _ _); refine wpAny_mkInt' ?_) | refine wpAny_letGo ?_ | refine wpAny_throw ?_ | refine wpAny_attempt ?_)) | wp_delta | wp_step))
    exact md_call hx rfl (wpAny_pure ⟨_, rfl, hs⟩)
theorem bound_append {prog : Program} {w : World} {A : Around} {E : Value → Shared → Prop} {s : Shared} {h₀ : Heap} {L : Addr} {m : Str → Option Value} {news : List (Addr × Obj)} {a : Addr} {xs : Array Value} {k : Nat} {Q : Value → Shared → Prop} (FF : Fr h₀ L s.heap m) (N : News h₀ L s.heap news) (ho : s.heap.get? a = some (W.listOf xs k))
    (h : ∀ q h', Fr h₀ L h' m → News h₀ L h' ((q, bmObj "list.append" (.ref a)) :: news) → (∀ p ∈ news, p.1 < q) → Q (.ref q) { s with heap := h', toks := s.toks + 1 }) : wpAny (model prog w) A (getAttr (.ref a) (Str.ofString "append") true) Q E s := by
  obtain ⟨hp, g, d, tk, os⟩ := s
  have hT : ∀ tk', (⟨hp, g, d, tk', os⟩ : Shared).TypeIs (.ref a) "list" := fun _ => ⟨_, ho, rfl⟩
  have f3 := F.slot_list_getattribute.lookup
  have f4 := F.slot_list_getattribute.bind (.ref a)
  have f5 := am_list_getattr_none
  unfold getAttr getAttrBy
  repeat (any_goals (first | assumption | exact hT _ | ((with_reducible show wpAny _ _ (call (Value.builtin "list.__getattribute__") _ _) _ _ _); refine call_meets F.slot_list_getattribute (hT _) am_entry_list_getattribute (F.args_list_getattribute_2 _ _) (meets_append_get a xs k #[] _) ⟨ho, ?_⟩) | (with_reducible (first | refine wpAny_bind ?_ | refine wpAny_pure ?_ | refine wpAny_holding ?_ | refine wpAny_standAt ?_ | refine wpAny_point ?_ | refine wpAny_of_eq (by assumption) ?_ | refine wpAny_typeOf (by assumption) ?_ | refine wpAny_specialOf_val (by assumption) (by assumption) ?_ | refine wpAny_specialOf (by assumption) (by assumption) ?_ | refine wpAny_isInstance_val (by assumption) (by assumption) ?_ | refine wpAny_isInstance (by assumption) (by assumption) ?_ | ((show wpAny _ _ (mkStr _) _ _ _); refine wpAny_mkStr' ?_) | ((show wpAny _ _ (mkInt _) _ _ _); refine wpAny_mkInt' ?_) | refine wpAny_letGo ?_ | refine wpAny_throw ?_ | refine wpAny_attempt ?_)) | wp_delta | wp_step))
  show wpAny _ _ (handedOut _) _ _ _
  rw [handedOut_of rfl]
  exact wpAny_pure (h _ _ (FF.push _) (News.push FF N _) fun p hp => Heap.lt_size (N p hp).1)
end Mine
end
section
namespace Mine
/-- a heap without one object -/
noncomputable def minus (h : Heap) (a : Addr) : Heap := h.update a fun _ => ⟨.none, none, .freed, #[]⟩
theorem minus_size (h : Heap) (a : Addr) : (minus h a).objs.size = h.objs.size := Heap.size_after_update ..
theorem minus_ne {h : Heap} {a b : Addr} (e : b ≠ a) : (minus h a).get? b = h.get? b := Heap.get?_update_ne h b a _ e
theorem minus_at (h : Heap) (a : Addr) : (minus h a).get? a = none := by
  unfold minus
  cases h
  simp only [Heap.update, Heap.get?, Array.getElem?_modify]
  rename_i objs _
  cases e : objs[a]? <;> simp
theorem minus_old {h : Heap} {a b : Addr} {o : Obj} (e : (minus h a).get? b = some o) : h.get? b = some o := by
  by_cases q : b = a
  · rw [q, minus_at] at e; cases e
  · rwa [minus_ne q] at e
/-- all but one object stand -/
noncomputable def KpBut (a : Addr) (h h' : Heap) : Prop := ∀ b o, b ≠ a → h.get? b = some o → h'.get? b = some o
theorem KpBut.of {h h' : Heap} {a : Addr} (k : Kp (minus h a) h') : KpBut a h h' := fun b o e q => k b o ((minus_ne e).trans q)
theorem Ent.minus {h : Heap} {a : Addr} {o : Obj} (e : h.get? a = some o) : Ent (minus h a) h [(a, o)] :=
  ⟨fun _ _ q => minus_old q, Nat.le_of_eq (minus_size h a), fun p hp => by rw [List.mem_singleton.mp hp]; exact ⟨e, minus_at h a⟩⟩
theorem minus_keeps {hb h : Heap} {a : Addr} (k : Kp hb h) (e : hb.get? a = none) : Kp hb (minus h a) := fun b o q => by
  by_cases x : b = a
  · rw [x, e] at q; cases q
  · rw [minus_ne x]; exact k b o q
theorem Fr.but {h₀ h h' : Heap} {L a : Addr} {m : Str → Option Value} {news : List (Addr × Obj)} {o : Obj} (F : Fr h₀ L h m) (N : News h₀ L h news) (hm : (a, o) ∈ news) (k : KpBut a h h') : Fr h₀ L h' m :=
  ⟨let ⟨o', es, n, ho, r⟩ := F.ns; ⟨o', es, n, k _ _ (fun e => (N _ hm).2.1 e.symm) ho, r⟩, fun b o' e => k b o' (fun q => by rw [q] at e; have := (N _ hm).2.2; rw [this] at e; cases e) (F.keep b o' e), F.above⟩
theorem News.but {h₀ h h' : Heap} {L a : Addr} {o o' : Obj} {news news' : List (Addr × Obj)} (N : News h₀ L h news) (U : Upd a o o' news news') (e : h'.get? a = some o') (k : KpBut a h h') : News h₀ L h' news' := by
  obtain ⟨pre, post, rfl, rfl, h1, h2⟩ := U.split
  intro p hp
  have old : ∀ q ∈ pre ++ (a, o) :: post, q.1 ≠ a → h'.get? q.1 = some q.2 ∧ q.1 ≠ L ∧ h₀.get? q.1 = none := fun q hq hn => ⟨k _ _ hn (N q hq).1, (N q hq).2⟩
  rcases List.mem_append.mp hp with hp | hp
  · exact old p (List.mem_append_left _ hp) (h1 p hp)
  · rcases List.mem_cons.mp hp with rfl | hp
    · exact ⟨e, (N (a, o) (List.mem_append_right _ (.head _))).2⟩
    · exact old p (List.mem_append_right _ (.tail _ hp)) (h2 p hp)
theorem enterCode {K : Frag} {prog : Program} {w : World} {A : Around} {s : Shared} {p : Program} {loose : List Str} {mean : ExcName → Option Value} {mg mb : Str → Option Value} {h₀ : Heap} {news : List (Addr × Obj)}
    {R : Result → Shared → Prop} {name qual : Str} {params : Arguments} {body : List Stmt} {scope : Scope} {dV kV doc pm cdv ct oc : Value} {an od : Option Addr} {osl : Array (Option Value)} {f : Addr} {args : Args} (binds : List (Str × Value))
    (X : K.In h₀) (T : Top p loose mean mg mb h₀) (B : Ent h₀ s.heap news)
    (ho : K.lookup f = some ⟨oc, od, .func (fnOf name qual params body scope dV kV doc pm an cdv ct), osl⟩) (hcd : codeIn K cdv qual = true) (hroom : A.depth < recursionLimit)
    (hbind : BindsTo s (fnOf name qual params body scope dV kV doc pm an cdv ct) args binds) (hloc : ∀ y ∈ binds, scope.names.lookup y.1 = some .local) (hnd : (binds.map (·.1)).Nodup)
    (h : ∀ L h₁ u tk, Fr h₀ L h₁ (kstB u binds) → News h₀ L h₁ news →
      wpAny (model prog w) (A.deeper (envOf qual scope L f cdv)) (execs body (envOf qual scope L f cdv))
        (fun fl s' => R (.ok (.ret (match fl with | .ret v => v | _ => .none))) s')
        (fun e s' => wpAny (model prog w) (A.deeper (envOf qual scope L f cdv)) (leaving (envOf qual scope L f cdv) e) (fun _ s'' => R (.error e) s'') (fun e' s'' => R (.error e') s'') s')
        { s with heap := h₁, toks := tk })
    (hco : scope.isCoroutine = false) (hgen : scope.isGenerator = false) (hk : scope.kind = .function)
    (hcell : ∀ x ∈ scope.names, x.2 ≠ .cell) : codeAny (model prog w) A (.call (.ref f) args) R s := by
  have T' := T.keeps B.keep
  have X' := Frag.In.keeps X B.keep
  refine codeAny_call_def (fd := fnOf name qual params body scope dV kV doc pm an cdv ct) (body := body) (binds := binds) hroom (X' _ _ ho) rfl T'.nolimit (codeRec_of X' hcd) rfl hbind hcell hloc (fun h₁ hns hk₁ => ?_) hco hgen hk
  have Z := Fr.entered B hnd hns hk₁
  exact h s.heap.objs.size h₁ _ _ Z.1 Z.2
end Mine
end
section
theorem Mine.anewEs : True := by w_top off; trivial
namespace Mine
/-- one sign turned into a text -/
noncomputable def sub1 (c : Nat) (z : List Nat) (l : List Nat) : List Nat := l.flatMap fun k => if k = c then z else [k]
theorem sub1_app (c : Nat) (z a b : List Nat) : sub1 c z (a ++ b) = sub1 c z a ++ sub1 c z b := List.flatMap_append
theorem sub1_free {c : Nat} {z : List Nat} : ∀ {l : List Nat}, c ∉ l → sub1 c z l = l
  | [], _ => rfl
  | k :: r, h => by
    have h1 : ¬ k = c := fun e => h (e ▸ .head _)
    show (if k = c then z else [k]) ++ sub1 c z r = _
    rw [if_neg h1, sub1_free fun q => h (.tail _ q)]; rfl
theorem sub1_join (c : Nat) (z : List Nat) : ∀ parts : List Str, (∀ p ∈ parts, c ∉ p.cps.toList) → sub1 c z (Str.join ⟨#[c]⟩ parts).cps.toList = (Str.join (st z) parts).cps.toList
  | [], _ => rfl
  | [p], h => sub1_free (h p (List.mem_singleton.mpr rfl))
  | p :: q :: r, h => by
    have ih := sub1_join c z (q :: r) fun a ha => h a (List.mem_cons_of_mem _ ha)
    show sub1 c z (p ++ ⟨#[c]⟩ ++ Str.join ⟨#[c]⟩ (q :: r)).cps.toList = (p ++ st z ++ Str.join (st z) (q :: r)).cps.toList
    simp only [Str.cps_append, Array.toList_append]
    rw [sub1_app, sub1_app, ih, sub1_free (h p (.head _))]
    congr 2
    show (if c = c then z else [c]) ++ [] = _
    rw [if_pos rfl, List.append_nil]
theorem replace_st (x z : List Nat) (c : Nat) : Txt.replace (st x) (st [c]) (st z) = st (sub1 c z x) := by
  have h : (Txt.replace (st x) ⟨#[c]⟩ (st z)).cps.toList = sub1 c z x := by
    rw [StrLaws.replace_one, ← sub1_join c z _ (StrLaws.split_free _ c), StrLaws.join_split]
  show Txt.replace (st x) ⟨#[c]⟩ (st z) = _
  generalize Txt.replace (st x) ⟨#[c]⟩ (st z) = r at h
  obtain ⟨⟨l⟩⟩ := r
  rw [← h]
theorem esc_all (l : List Nat) : sub1 13 [38, 35, 120, 68, 59] (sub1 62 [38, 103, 116, 59] (sub1 60 [38, 108, 116, 59] (sub1 38 [38, 97, 109, 112, 59] l))) = l.flatMap esc := by
  induction l with
  | nil => rfl
  | cons k r ih =>
    have e : ∀ c z, sub1 c z (k :: r) = sub1 c z [k] ++ sub1 c z r := fun c z => sub1_app c z [k] r
    rw [e, sub1_app, sub1_app, sub1_app, ih, List.flatMap_cons]
    congr 1
    unfold esc
    by_cases h1 : k = 38
    · subst h1; decide
    by_cases h2 : k = 60
    · subst h2; decide
    by_cases h3 : k = 62
    · subst h3; decide
    by_cases h4 : k = 13
    · subst h4; decide
    simp [sub1, h1, h2, h3, h4]
theorem found_st (x : List Nat) (c : Nat) : (!(Builtin.Str.occurrences (st x) (st [c]) 0 (st x).length 1).isEmpty) = decide (c ∈ x) := StrLaws.found_one (st x) c
theorem sub1_len {c : Nat} {z : List Nat} (hz : z.length ≤ 5) : ∀ l : List Nat, (sub1 c z l).length ≤ 5 * l.length
  | [] => Nat.zero_le _
  | k :: r => by
    have h := sub1_len (c := c) hz r
    show ((if k = c then z else [k]) ++ sub1 c z r).length ≤ 5 * (r.length + 1)
    rw [List.length_append]
    split
    · omega
    · show 1 + _ ≤ _; omega
theorem replace_at {prog : Program} {w : World} {A : Around} {E : Value → Shared → Prop} {s : Shared} {x z : List Nat} {c : Nat} {Y Z : Str} {t u v : Tok} {Q : Value → Shared → Prop} (hY : Y = st [c]) (hZ : Z = st z) (hu : u ≠ 0) (hv : v ≠ 0) (huv : u ≠ v) (hyz : (st [c] == st z) = false) (hx : x.length ≤ 1048576) (hz : z.length ≤ 14)
    (h : ∀ t' k, Q (.str (st (sub1 c z x)) t') { s with toks := k }) : wpAny (model prog w) A (call (.builtin "str.replace") [.str (st x) t, .str Y u, .str Z v]) Q E s := by
  subst hY hZ
  exact SC.replaceW hu hv huv hyz (by rw [st_len]; exact hx) (by rw [st_len]; exact hz) (by rw [replace_st]; exact h)
theorem esc_spec {prog : Program} {w : World} {A : Around} {s : Shared} {p : Program} {loose : List Str} {mean : ExcName → Option Value} {mg mb : Str → Option Value} {Q E : Value → Shared → Prop}
    (X : (hd.heap_1 w.params).In s.heap) (T : Top p loose mean mg mb s.heap) (hdp : A.depth + 0 < recursionLimit) (hh : A.handled = none)
    {cs : List Nat} {t : Tok} (hn : cs.length ≤ 1000) (ret : ∀ t' h' tk', Kp s.heap h' → Q (.str (st (cs.flatMap esc)) t') { s with heap := h', toks := tk' }) :
    wpAny (model prog w) A (call (.ref 161) [.str (st cs) t]) Q E s := by
  k_dflt (refine' enter ([(Str.ofString "text", .str (st cs) t)]) X T (Ent.self _) ?k1 ?k2 (Nat.lt_of_le_of_lt (Nat.le_add_right _ _) hdp) ?k3 ?k4 ?k5 ?_ ?c1 ?c2 ?c3 ?c4; (case k1 => k_is); (case k2 => k_is); (case k3 => exact BindsTo.of_eq rfl); (case k4 => exact locs rfl); (case k5 => (dsimp only [List.map]; decide)); (case c1 => exact rfl); (case c2 => exact rfl); (case c3 => exact rfl); (case c4 => decide))
  intro L' h' u' tk' F' N'
  (try dsimp only)
  dsimp only [kstB] at F'
  refine wpAny_mono (E := Fa) ?_ (fun _ _ x => x) (fun _ _ x => x.elim)
  (first | walk1 | (dsimp only; walk1))
  (first | walk1 | (dsimp only; walk1))
  have hl0 : cs.length ≤ 1000 := hn
  refine execs_at 1 (End s.heap L' s (fun _ => []) (fun _ : Unit => [(Str.ofString "text", .str (st (sub1 38 [38, 97, 109, 112, 59] cs)))]) (fun _ => True)) ?a0 ?b0
  case a0 =>
    dsimp only [List.take]
    iterate 7 (first | walk1 | (dsimp only; walk1))
    rw [show (!(Builtin.Str.occurrences (st cs) (Str.ofString "&") 0 (st cs).length 1).isEmpty) = decide (38 ∈ cs) from found_st cs 38]
    by_cases hm : 38 ∈ cs
    · rw [if_pos (decide_eq_true hm)]
      refine wpAny_execs_cons ?_
      iterate 10 (first | walk1 | (dsimp only; walk1))
      refine replace_at (x := cs) (c := 38) (z := [38, 97, 109, 112, 59]) (by decide) (by decide) (Nat.succ_ne_zero _) (Nat.succ_ne_zero _) (Nat.ne_of_lt (Nat.lt_succ_self _)) (by decide) (Nat.le_trans hl0 (by decide)) (by decide) fun t9 k9 => ?_
      k_steps
      dsimp only
      exact End.intro () (by assumption) News.nil (fun _ h => nomatch h) (Known.str (by with_unfolding_all rfl) rfl Known.nil) trivial
    · rw [if_neg (by rw [decide_eq_false hm]; exact Bool.false_ne_true)]
      k_steps
      dsimp only
      exact End.intro () (by assumption) News.nil (fun _ h => nomatch h) (Known.str (by with_unfolding_all rfl) (congrArg st (sub1_free hm).symm) Known.nil) trivial
  rintro _ ⟨_, h0, tk0, m0, news0, rfl, F0, -, -, hk0, -⟩
  obtain ⟨τ0, G0⟩ := Fr.canon F0 hk0
  dsimp only [nm, V0.mk] at G0
  clear F0 hk0
  have N0 : News s.heap L' h0 [] := News.nil
  have hl1 : (sub1 38 [38, 97, 109, 112, 59] cs).length ≤ 5000 := Nat.le_trans (sub1_len (by decide) _) (Nat.mul_le_mul_left 5 hl0)
  dsimp only [List.drop]
  refine execs_at 1 (End s.heap L' s (fun _ => []) (fun _ : Unit => [(Str.ofString "text", .str (st (sub1 60 [38, 108, 116, 59] (sub1 38 [38, 97, 109, 112, 59] cs))))]) (fun _ => True)) ?a1 ?b1
  case a1 =>
    dsimp only [List.take]
    iterate 7 (first | walk1 | (dsimp only; walk1))
    rw [show (!(Builtin.Str.occurrences (st (sub1 38 [38, 97, 109, 112, 59] cs)) (Str.ofString "<") 0 (st (sub1 38 [38, 97, 109, 112, 59] cs)).length 1).isEmpty) = decide (60 ∈ (sub1 38 [38, 97, 109, 112, 59] cs)) from found_st (sub1 38 [38, 97, 109, 112, 59] cs) 60]
    by_cases hm : 60 ∈ (sub1 38 [38, 97, 109, 112, 59] cs)
    · rw [if_pos (decide_eq_true hm)]
      refine wpAny_execs_cons ?_
      iterate 10 (first | walk1 | (dsimp only; walk1))
      refine replace_at (x := (sub1 38 [38, 97, 109, 112, 59] cs)) (c := 60) (z := [38, 108, 116, 59]) (by decide) (by decide) (Nat.succ_ne_zero _) (Nat.succ_ne_zero _) (Nat.ne_of_lt (Nat.lt_succ_self _)) (by decide) (Nat.le_trans hl1 (by decide)) (by decide) fun t9 k9 => ?_
      k_steps
      dsimp only
      exact End.intro () (by assumption) News.nil (fun _ h => nomatch h) (Known.str (by with_unfolding_all rfl) rfl Known.nil) trivial
    · rw [if_neg (by rw [decide_eq_false hm]; exact Bool.false_ne_true)]
      k_steps
      dsimp only
      exact End.intro () (by assumption) News.nil (fun _ h => nomatch h) (Known.str (by with_unfolding_all rfl) (congrArg st (sub1_free hm).symm) Known.nil) trivial
  rintro _ ⟨_, h1, tk1, m1, news1, rfl, F1, -, -, hk1, -⟩
  obtain ⟨τ1, G1⟩ := Fr.canon F1 hk1
  dsimp only [nm, V0.mk] at G1
  clear F1 hk1
  have N1 : News s.heap L' h1 [] := News.nil
  have hl2 : (sub1 60 [38, 108, 116, 59] (sub1 38 [38, 97, 109, 112, 59] cs)).length ≤ 25000 := Nat.le_trans (sub1_len (by decide) _) (Nat.mul_le_mul_left 5 hl1)
  dsimp only [List.drop]
  refine execs_at 1 (End s.heap L' s (fun _ => []) (fun _ : Unit => [(Str.ofString "text", .str (st (sub1 62 [38, 103, 116, 59] (sub1 60 [38, 108, 116, 59] (sub1 38 [38, 97, 109, 112, 59] cs)))))]) (fun _ => True)) ?a2 ?b2
  case a2 =>
    dsimp only [List.take]
    iterate 7 (first | walk1 | (dsimp only; walk1))
    rw [show (!(Builtin.Str.occurrences (st (sub1 60 [38, 108, 116, 59] (sub1 38 [38, 97, 109, 112, 59] cs))) (Str.ofString ">") 0 (st (sub1 60 [38, 108, 116, 59] (sub1 38 [38, 97, 109, 112, 59] cs))).length 1).isEmpty) = decide (62 ∈ (sub1 60 [38, 108, 116, 59] (sub1 38 [38, 97, 109, 112, 59] cs))) from found_st (sub1 60 [38, 108, 116, 59] (sub1 38 [38, 97, 109, 112, 59] cs)) 62]
    by_cases hm : 62 ∈ (sub1 60 [38, 108, 116, 59] (sub1 38 [38, 97, 109, 112, 59] cs))
    · rw [if_pos (decide_eq_true hm)]
      refine wpAny_execs_cons ?_
      iterate 10 (first | walk1 | (dsimp only; walk1))
      refine replace_at (x := (sub1 60 [38, 108, 116, 59] (sub1 38 [38, 97, 109, 112, 59] cs))) (c := 62) (z := [38, 103, 116, 59]) (by decide) (by decide) (Nat.succ_ne_zero _) (Nat.succ_ne_zero _) (Nat.ne_of_lt (Nat.lt_succ_self _)) (by decide) (Nat.le_trans hl2 (by decide)) (by decide) fun t9 k9 => ?_
      k_steps
      dsimp only
      exact End.intro () (by assumption) News.nil (fun _ h => nomatch h) (Known.str (by with_unfolding_all rfl) rfl Known.nil) trivial
    · rw [if_neg (by rw [decide_eq_false hm]; exact Bool.false_ne_true)]
      k_steps
      dsimp only
      exact End.intro () (by assumption) News.nil (fun _ h => nomatch h) (Known.str (by with_unfolding_all rfl) (congrArg st (sub1_free hm).symm) Known.nil) trivial
  rintro _ ⟨_, h2, tk2, m2, news2, rfl, F2, -, -, hk2, -⟩
  obtain ⟨τ2, G2⟩ := Fr.canon F2 hk2
  dsimp only [nm, V0.mk] at G2
  clear F2 hk2
  have N2 : News s.heap L' h2 [] := News.nil
  have hl3 : (sub1 62 [38, 103, 116, 59] (sub1 60 [38, 108, 116, 59] (sub1 38 [38, 97, 109, 112, 59] cs))).length ≤ 125000 := Nat.le_trans (sub1_len (by decide) _) (Nat.mul_le_mul_left 5 hl2)
  dsimp only [List.drop]
  refine execs_at 1 (End s.heap L' s (fun _ => []) (fun _ : Unit => [(Str.ofString "text", .str (st (sub1 13 [38, 35, 120, 68, 59] (sub1 62 [38, 103, 116, 59] (sub1 60 [38, 108, 116, 59] (sub1 38 [38, 97, 109, 112, 59] cs))))))]) (fun _ => True)) ?a3 ?b3
  case a3 =>
    dsimp only [List.take]
    iterate 7 (first | walk1 | (dsimp only; walk1))
    rw [show (!(Builtin.Str.occurrences (st (sub1 62 [38, 103, 116, 59] (sub1 60 [38, 108, 116, 59] (sub1 38 [38, 97, 109, 112, 59] cs)))) (Str.ofString "\r") 0 (st (sub1 62 [38, 103, 116, 59] (sub1 60 [38, 108, 116, 59] (sub1 38 [38, 97, 109, 112, 59] cs)))).length 1).isEmpty) = decide (13 ∈ (sub1 62 [38, 103, 116, 59] (sub1 60 [38, 108, 116, 59] (sub1 38 [38, 97, 109, 112, 59] cs)))) from found_st (sub1 62 [38, 103, 116, 59] (sub1 60 [38, 108, 116, 59] (sub1 38 [38, 97, 109, 112, 59] cs))) 13]
    by_cases hm : 13 ∈ (sub1 62 [38, 103, 116, 59] (sub1 60 [38, 108, 116, 59] (sub1 38 [38, 97, 109, 112, 59] cs)))
    · rw [if_pos (decide_eq_true hm)]
      refine wpAny_execs_cons ?_
      iterate 10 (first | walk1 | (dsimp only; walk1))
      refine replace_at (x := (sub1 62 [38, 103, 116, 59] (sub1 60 [38, 108, 116, 59] (sub1 38 [38, 97, 109, 112, 59] cs)))) (c := 13) (z := [38, 35, 120, 68, 59]) (by decide) (by decide) (Nat.succ_ne_zero _) (Nat.succ_ne_zero _) (Nat.ne_of_lt (Nat.lt_succ_self _)) (by decide) (Nat.le_trans hl3 (by decide)) (by decide) fun t9 k9 => ?_
      k_steps
      dsimp only
      exact End.intro () (by assumption) News.nil (fun _ h => nomatch h) (Known.str (by with_unfolding_all rfl) rfl Known.nil) trivial
    · rw [if_neg (by rw [decide_eq_false hm]; exact Bool.false_ne_true)]
      k_steps
      dsimp only
      exact End.intro () (by assumption) News.nil (fun _ h => nomatch h) (Known.str (by with_unfolding_all rfl) (congrArg st (sub1_free hm).symm) Known.nil) trivial
  rintro _ ⟨_, h3, tk3, m3, news3, rfl, F3, -, -, hk3, -⟩
  obtain ⟨τ3, G3⟩ := Fr.canon F3 hk3
  dsimp only [nm, V0.mk] at G3
  clear F3 hk3
  have N3 : News s.heap L' h3 [] := News.nil
  have hl4 : (sub1 13 [38, 35, 120, 68, 59] (sub1 62 [38, 103, 116, 59] (sub1 60 [38, 108, 116, 59] (sub1 38 [38, 97, 109, 112, 59] cs)))).length ≤ 625000 := Nat.le_trans (sub1_len (by decide) _) (Nat.mul_le_mul_left 5 hl3)
  dsimp only [List.drop]
  k_steps
  dsimp only
  rw [esc_all]
  exact ret _ _ _ (Fr.keep (by assumption))
end Mine
end
section
namespace Mine
theorem kat_of {prog : Program} {w : World} (n : Nat) : ∀ (l : List (Str × Tok × Value)), (l.map (·.1)).Nodup → KdkAt (strKind prog w) (⟨.type "dict", none, .dict (l.map fun x => (⟨PyData.keyHash w.params x.1, .str x.1 x.2.1, x.2.2⟩ : DictEntry)).toArray n, #[]⟩ : Obj) (l.map fun x => (x.1, x.2.2)) n := fun l hn => by
  refine ⟨_, ⟨rfl, rfl, rfl⟩, rfl, ?_, ?_, by rw [List.map_map]; exact hn⟩
  · intro e he
    simp only [List.mem_toArray, List.mem_map] at he
    obtain ⟨x, hx, rfl⟩ := he
    exact ⟨x.1, strKind_is prog w _ _, rfl⟩
  · show Pairs _ (l.map _) _
    clear hn
    induction l with
    | nil => exact .nil
    | cons x r ih => exact .cons (strKind_is prog w _ _) rfl ih
/-- the rows of a written dict -/
noncomputable def rowsOf : Option Obj → List (Str × Tok × Value)
  | some ⟨_, _, .dict es _, _⟩ => es.toList.filterMap fun e => match e.key with
    | .str s t => some (s, t, e.val)
    | _ => none
  | _ => []
noncomputable def nsRows (w : World) : List (Str × Tok × Value) := rowsOf ((hd.heap_1 w.params).lookup 44)
theorem nsLook (w : World) : (hd.heap_1 w.params).lookup 44 = some ⟨.type "dict", none, .dict ((nsRows w).map fun x => (⟨PyData.keyHash w.params x.1, .str x.1 x.2.1, x.2.2⟩ : DictEntry)).toArray 7, #[]⟩ := by kernel_rfl
theorem nsNodup (w : World) : ((nsRows w).map (·.1)).Nodup := of_decide_eq_true (by kernel_rfl)
theorem nsmap {prog : Program} {w : World} : ∃ o kvs ep, (hd.heap_1 w.params).lookup 44 = some o ∧ KdkAt (strKind prog w) o kvs ep ∧ kvs.length ≤ sizeLine :=
  ⟨_, (nsRows w).map fun x => (x.1, x.2.2), 7, nsLook w, kat_of 7 (nsRows w) (nsNodup w), by rw [sizeLine_eq]; exact Nat.le_of_ble_eq_true (by kernel_rfl)⟩
section
variable {prog : Program} {w : World} {A : Around} {E : Value → Shared → Prop} {s : Shared} {h₀ : Heap} {L d : Addr} {m : Str → Option Value} {news : List (Addr × Obj)} {kvs : List (Str × Value)} {ep : Nat}
theorem DictAt.of {h : Heap} {a : Addr} (D : h.DictAt (strKind prog w) a kvs ep) : h.DictOf (strKind prog w) a kvs := let ⟨o, es, r⟩ := D; ⟨o, es, ep, r⟩
theorem items_meth {pl : Sem Bool} {Q : Value × List Value → Shared → Prop} (D : s.heap.DictAt (strKind prog w) d kvs ep) (h : Q (.builtin "dict.items", [.ref d]) s) : wpAny (model prog w) A (getMethod (.ref d) (Str.ofString "items") pl) Q E s :=
  getMethod_builtin (DictAt.of D).typeIs PySem.F.plainAttrs_dict PySem.F.slot_dict_items PySem.F.type_dict_items (DictAt.of D).mapOf.noDict h
theorem items_call {Q : Value → Shared → Prop} (F : Fr h₀ L s.heap m) (N : News h₀ L s.heap news) (D : s.heap.DictAt (strKind prog w) d kvs ep) (lo : (d == sysModules) = false)
    (h : ∀ (B : Addr) h', Fr h₀ L h' m → News h₀ L h' ((B, { cls := .type "dict_items", data := .fields #[.ref d] }) :: news) → (∀ q ∈ news, q.1 < B) → Q (.ref B) { s with heap := h' }) :
    wpAny (model prog w) A (call (.builtin "dict.items") [.ref d]) Q E s :=
  call_meetsIn PySem.F.slot_dict_items (DictAt.of D).typeIs PySem.F.entry_dict_items (PySem.F.args_dict_items_1 _) (meets_dict_items (strKind prog w) d lo) ⟨⟨kvs, DictAt.of D⟩, h _ _ (F.push _) (News.push F N _) fun q hq => Heap.lt_size (N q hq).1⟩
theorem items_list {v : Addr} {Q : Value → Shared → Prop} (hh : A.handled = none) (F : Fr h₀ L s.heap m) (N : News h₀ L s.heap news) (hv : (v, ({ cls := .type "dict_items", data := .fields #[.ref d] } : Obj)) ∈ news) (D : s.heap.DictAt (strKind prog w) d kvs ep) (hn : kvs.length ≤ sizeLine)
    (h : ∀ (B : Addr) acc c h' tk, Fr h₀ L h' m → News h₀ L h' ((B, W.listOf acc c) :: news) → (∀ q ∈ news, q.1 < B) → Q (.ref B) { s with heap := h', toks := tk }) :
    wpAny (model prog w) A (call (.type "list") [.ref v]) Q E s :=
  kdx_call hh ⟨_, (N _ hv).1, rfl, rfl⟩ D hn fun h' tk acc c as hk hS _ _ _ => h _ acc c h' tk (F.keeps hk) (fun q hq => by
    rcases List.mem_cons.mp hq with rfl | hq
    · exact ⟨hS, kdx_fresh F (Nat.le_refl _)⟩
    · exact ⟨hk _ _ (N q hq).1, (N q hq).2⟩) fun q hq => Heap.lt_size (N q hq).1
theorem nsDict {h : Heap} (X : (hd.heap_1 w.params).In h) : ∃ kvs ep, h.DictAt (strKind prog w) 44 kvs ep ∧ kvs.length ≤ sizeLine := by
  obtain ⟨o, kvs, ep, ho, ha, hl⟩ := nsmap (prog := prog) (w := w)
  exact ⟨kvs, ep, ha.dictAt (X _ _ ho), hl⟩
end
end Mine
end
section
theorem Mine.anewWi : True := by w_top off; trivial
namespace Mine
local macro_rules | `(tactic| walk_at "getMethod ref") => `(tactic| ((with_reducible show wpAny _ _ (getMethod _ (Str.ofString "items") _) _ _ _); refine held ?_))
/-- what the writer holds -/
structure Wd (es : List DictEntry) (q : Addr) : Prop where
  write : getL (Str.ofString "_write") es = some (some (.ref q))
  wc : getL (Str.ofString "_with_comments") es = some (some (.bool true))
  seen : getL (Str.ofString "_root_seen") es = some (some (.bool false))
  done : getL (Str.ofString "_root_done") es = some (some (.bool false))
  depth : ∃ t, getL (Str.ofString "_ignored_depth") es = some (some (.int 0 t))
  comment : getL (Str.ofString "comment") es = some none
  pi : getL (Str.ofString "pi") es = some none
theorem init_spec {prog : Program} {w : World} {A : Around} {s : Shared} {p : Program} {loose : List Str} {mean : ExcName → Option Value} {mg mb : Str → Option Value} {R : Result → Shared → Prop} {hb : Heap}
    (X0 : (hd.heap_1 w.params).In hb) (T0 : Top p loose mean mg mb hb) (hdp : A.depth < recursionLimit) (hh : A.handled = none) {x dx q : Addr}
    (k0 : Kp hb s.heap) (hbx : hb.get? x = none) (hbd : hb.get? dx = none) (hlt : @LT.lt Nat _ dx x) (gx : s.heap.get? x = some (instObj 150 dx)) (gd : s.heap.get? dx = some (dictOf [] 0))
    (ret : ∀ es n h' tk', KpBut dx s.heap h' → h'.get? dx = some (dictOf es n) → Wd es q → R (.ok (.ret .none)) { s with heap := h', toks := tk' }) :
    codeAny (model prog w) A (.call (.ref 67) ⟨[.ref x, .ref q], [(Str.ofString "with_comments", .bool true)]⟩) R s := by
  have hxd : x ≠ dx := (Nat.ne_of_lt hlt).symm
  have B : Ent (minus (minus s.heap dx) x) s.heap [(x, instObj 150 dx), (dx, dictOf [] 0)] := by
    refine ⟨fun _ _ e => minus_old (minus_old e), Nat.le_of_eq (by rw [minus_size, minus_size]), fun p hp => ?_⟩
    rcases List.mem_cons.mp hp with rfl | hp
    · exact ⟨gx, minus_at _ _⟩
    · rw [List.mem_singleton.mp hp]; exact ⟨gd, by rw [minus_ne hxd.symm]; exact minus_at _ _⟩
  have X := Frag.In.keeps X0 (minus_keeps (minus_keeps k0 hbd) hbx)
  have T := T0.keeps (minus_keeps (minus_keeps k0 hbd) hbx)
  have hfin : ∀ {h' : Heap} {L' : Addr} {news' : List (Addr × Obj)} {m'}, Fr (minus (minus s.heap dx) x) L' h' m' → News (minus (minus s.heap dx) x) L' h' news' → (x, instObj 150 dx) ∈ news' → KpBut dx s.heap h' := fun F N hm b o hb e => by
    by_cases q : b = x
    · rw [q] at e ⊢; rw [gx] at e; cases e; exact N.get hm
    · exact F.keep b o (by rw [minus_ne q, minus_ne hb]; exact e)
  k_dflt (refine' enterCode [(Str.ofString "self", .ref x), (Str.ofString "write", .ref q), (Str.ofString "with_comments", .bool true), (Str.ofString "strip_text", .bool false), (Str.ofString "rewrite_prefixes", .bool false), (Str.ofString "qname_aware_tags", .none), (Str.ofString "qname_aware_attrs", .none), (Str.ofString "exclude_attrs", .none), (Str.ofString "exclude_tags", .none)] X T B ?k1 ?k2 hdp ?k3 ?k4 ?k5 ?_ ?c1 ?c2 ?c3 ?c4; (case k1 => k_is); (case k2 => k_is); (case k4 => exact locs rfl); (case k5 => (dsimp only [List.map]; decide)); (case c1 => exact rfl); (case c2 => exact rfl); (case c3 => exact rfl); (case c4 => decide))
  case k3 =>
    have X2 := Frag.In.keeps X B.keep
    obtain ⟨o, ho, hob⟩ : ∃ o, (hd.heap_1 w.params).lookup 60 = some o ∧ ∃ es ep, o.data = .dict es ep ∧ StrKeys es ∧ nsFind es (Str.ofString "strip_text") = some (.bool false) ∧ nsFind es (Str.ofString "rewrite_prefixes") = some (.bool false) ∧ nsFind es (Str.ofString "qname_aware_tags") = some .none ∧ nsFind es (Str.ofString "qname_aware_attrs") = some .none ∧ nsFind es (Str.ofString "exclude_attrs") = some .none ∧ nsFind es (Str.ofString "exclude_tags") = some .none :=
      ⟨_, by k_is, _, _, rfl, by (intro e he; simp only [List.mem_toArray, List.mem_cons, List.not_mem_nil, or_false] at he; rcases he with rfl | rfl | rfl | rfl | rfl | rfl | rfl <;> exact ⟨_, _, rfl⟩), by kernel_rfl, by kernel_rfl, by kernel_rfl, by kernel_rfl, by kernel_rfl, by kernel_rfl⟩
    obtain ⟨es, ep, hd, hsk, f1, f2, f3, f4, f5, f6⟩ := hob
    have hNs : s.heap.Ns 60 (nsFind es) := ⟨o, es, ep, X2 _ _ ho, hd, hsk, fun _ => rfl⟩
    intro M A E Q hq
    unfold bindArgs
    simp only [fnOf]
    repeat (any_goals (first | assumption | ((with_reducible show wpAny _ _ (nsGet _ _) _ _ _); refine wpAny_nsGet hNs ?_; dsimp only; first | rw [f1] | rw [f2] | rw [f3] | rw [f4] | rw [f5] | rw [f6]) | (with_reducible (first | refine wpAny_bind ?_ | refine wpAny_pure ?_ | refine wpAny_holding ?_ | refine wpAny_standAt ?_ | refine wpAny_point ?_ | refine wpAny_of_eq (by assumption) ?_ | refine wpAny_typeOf (by assumption) ?_ | refine wpAny_specialOf_val (by assumption) (by assumption) ?_ | refine wpAny_specialOf (by assumption) (by assumption) ?_ | refine wpAny_isInstance_val (by assumption) (by assumption) ?_ | refine wpAny_isInstance (by assumption) (by assumption) ?_ | ((show wpAny _ _ (mkStr _) _ _ _); refine wpAny_mkStr' ?_) | ((show wpAny _ _ (mkInt _) _ _ _); refine wpAny_mkInt' ?_) | refine wpAny_letGo ?_ | refine wpAny_throw ?_ | refine wpAny_attempt ?_)) | wp_delta | wp_step))
  intro L' h' u' tk' F' N'
  refine wpAny_mono (E := Fa) ?_ (fun _ _ x => x) (fun _ _ x => x.elim)
  (try dsimp only)
  dsimp only [kstB] at F'
  obtain ⟨kvs, ep, hD, hsz⟩ := nsDict (prog := prog) X
  k_steps
  rename Fr _ _ _ _ => F2
  rename News _ _ _ _ => N2
  have D2 := hD.keep F2.keep
  refine items_meth D2 ?_
  k_steps
  refine items_call F2 N2 D2 (by decide) fun B2 h3 F3 N3 l3 => ?_
  k_lt l3
  k_steps
  refine items_list hh F3 N3 (.head _) (hD.keep F3.keep) hsz fun B4 acc c h4 tk4 F4 N4 l4 => ?_
  k_lt l4
  have N5 := N4
  k_steps
  rename News _ _ _ _ => N9
  rename Fr _ _ _ _ => F9
  refine ret _ _ _ _ (hfin F9 N9 (by k_mem)) (News.get N9 (by k_mem)) ?_
  exact ⟨by k_get, by k_get, by k_get, by k_get, ⟨_, by k_get⟩, by k_get, by k_get⟩
end Mine
end
section
set_option maxHeartbeats 4000000
namespace Mine
theorem sg_append : Manifest.signature? "list.append" = some ⟨.oneArg, "list.append", "append", .self, [⟨"object", .posOnly, true⟩]⟩ := by
  rw [signature?_of (id := "list.append") (n := ['d', 'n', 'e', 'p', 'p', 'a']) (o := ['t', 's', 'i', 'l']) (by kernel_rfl) PySem.F.owner_list]; kernel_rfl
theorem kd_append : builtinKind "list.append" = some .method := by decide +kernel
theorem call_bm {prog : Program} {w : World} {A : Around} {E : Value → Shared → Prop} {s : Shared} {q out : Addr} {xs : Array Value} {c : Nat} {v : Value} {Q : Value → Shared → Prop} (hq : s.heap.get? q = some (bmObj "list.append" (.ref out))) (ho : s.heap.get? out = some (W.listOf xs c)) (hsz : xs.size ≤ sizeLine)
    (h : ∀ h', Heap.SameBut out s.heap h' → h'.get? out = some (W.listOf (xs.push v) (c + 1)) → Q .none { s with heap := h' }) : wpAny (model prog w) A (call (.ref q) [v]) Q E s := by
  refine wpAny_call (codeAny_of_tree ?_)
  show wpAny _ A.in1 (callAny (.ref q) ⟨[v], []⟩) _ _ s
  simp only [callAny]
  refine wpAny_bind (wpAny_load hq ?_)
  simp only [bmObj, show (Value.type "builtin_function_or_method" == Value.type "method" || Value.type "builtin_function_or_method" == Value.type "builtin_function_or_method" || Value.type "builtin_function_or_method" == Value.type "method-wrapper") = true by decide, if_true]
  refine KFB.if_so (by decide) ?_
  refine wpAny_bind ?_
  have hT : s.TypeIs (.ref out) "list" := ⟨_, ho, rfl⟩
  have e3 : isSubtype (.type "list") (.type "module") = pure false := by rw [isSubtype_type]; kernel_rfl
  have e4 : isSubtype (.type "list") (.type "type") = pure false := by rw [isSubtype_type]; kernel_rfl
  have fin : codeAny (model prog w) A (.builtin "list.append" ⟨[.ref out, v], []⟩) (fun r s' => match r with | .ok (.ret v) => Q v s' | .ok _ => False | .error e => E e s') s := by
    refine codeAny_builtin entry_list_append ?_
    show wpAny _ _ (updateSeq out (·.push v) >>= fun _ => ret .none) _ _ s
    refine wpAny_bind ?_
    refine wpAny_updateSeq ho rfl (wpAny_pure (h _ (Heap.SameBut.update ..) ?_))
    rw [Heap.get?_update_self _ ho (by rw [mapSeq_push]; rfl), mapSeq_push]
  unfold checkBoundCall
  rw [sg_append]
  dsimp only
  rw [kd_append]
  unfold isInstance isType
  repeat (any_goals (first | assumption | (with_reducible (first | refine wpAny_bind ?_ | refine wpAny_pure ?_ | refine wpAny_holding ?_ | refine wpAny_standAt ?_ | refine wpAny_point ?_ | refine wpAny_of_eq (by assumption) ?_ | refine wpAny_typeOf (by assumption) ?_ | refine wpAny_specialOf_val (by assumption) (by assumption) ?_ | refine wpAny_specialOf (by assumption) (by assumption) ?_ | refine wpAny_isInstance_val (by assumption) (by assumption) ?_ | refine wpAny_isInstance (by assumption) (by assumption) ?_ | ((show wpAny _ _ (mkStr _) _ _ _); refine wpAny_mkStr' ?_) | ((show wpAny _ _ (mkInt _) _ _ _); refine wpAny_mkInt' ?_) | refine wpAny_letGo ?_ | refine wpAny_throw ?_ | refine wpAny_attempt ?_)) | wp_delta | wp_step))
  exact ⟨Code.quiet_builtin _ (by decide +kernel), fin⟩
/-- the method stands -/
noncomputable def BmAt (q : Addr) (id : String) (v : Value) (h : Heap) : Prop := h.get? q = some (bmObj id v)
theorem callWith_bmF {M : Model} {A : Around} {E : Value → Shared → Prop} {s : Shared} {id : String} {v : Value} {pos : Pos} {u : Addr} {first : List Value} {args : List (Bool × Sem Value)} {Q : Value → Shared → Prop} (hplain : args.any (·.1) = false)
    (h : wpAny M A (evalArgs (.ref u) true args []) (fun x s₁ => BmAt u id v s₁.heap ∧ wpAny M A (call (.ref u) (first ++ x.pos) x.kw) Q E s₁) E s) : wpAny M A (callWith pos (.ref u) first args []) Q E s := by
  unfold callWith
  refine wpAny_bind (wpAny_holding (wpAny_mono h (fun x s₁ h₁ => wpAny_bind (wpAny_standAt ?_)) fun _ _ x => x))
  obtain ⟨ho, hcall⟩ := h₁
  simp only [hplain, List.any_nil, Bool.or_false]
  refine wpAny_bind (m := keeperOf (.ref u)) ?_
  unfold keeperOf
  refine wpAny_bind (wpAny_load ho ?_)
  simp only [show (Value.type "builtin_function_or_method" != Value.type "method") = true by decide, show (Value.type "builtin_function_or_method" == Value.type "builtin_function_or_method" || Value.type "builtin_function_or_method" == Value.type "method-wrapper") = true by decide, if_true]
  refine wpAny_pure ?_
  exact wpAny_bind (wpAny_mono hcall (fun r s₂ hr => wpAny_bind (wpAny_holding (wpAny_point (wpAny_pure hr)))) fun _ _ x => x)
theorem callWith_bm {M : Model} {A : Around} {E : Value → Shared → Prop} {s : Shared} {id : String} {v : Value} {pos : Pos} {u : Addr} {first : List Value} {env : Env} {e : Expr} {rest : List Expr} {Q : Value → Shared → Prop} (_h : BmAt u id v s.heap)
    (h : wpAny M A (spliced (backTo pos (starEach (e :: rest) env))) (fun vs s₁ => BmAt u id v s₁.heap ∧ wpAny M A (call (.ref u) (first ++ vs)) Q E s₁) E s)
    (he : starEach (e :: rest) env = (false, eval e env) :: starEach rest env := by rfl) (hplain : (backTo pos (starEach rest env)).any (·.1) = false := by rfl) :
    wpAny M A (callWith pos (.ref u) first (backTo pos (starEach (e :: rest) env)) []) Q E s := by
  rw [he] at h ⊢
  refine callWith_bmF (id := id) (v := v) (by show (false || (backTo pos (starEach rest env)).any (·.1)) = false; rw [hplain]; rfl) ?_
  exact evalArgs_plain h
theorem inst_of {h₀ h : Heap} {L : Addr} {m : Str → Option Value} {x dx : Addr} {es : List DictEntry} {n : Nat} (F : Fr h₀ L h m) (gx : h₀.get? x = some (instObj 150 dx)) (gd : h₀.get? dx = some (dictOf es n)) : InstAt h x (instObj 150 dx) 150 (some (dictOf es n)) :=
  ⟨F.keep _ _ gx, rfl, rfl, F.keep _ _ gd⟩
theorem bm_of {h₀ h : Heap} {L : Addr} {m : Str → Option Value} {q : Addr} {id : String} {v : Value} (F : Fr h₀ L h m) (g : h₀.get? q = some (bmObj id v)) : BmAt q id v h := F.keep _ _ g
end Mine
end
section
namespace Mine
/-! the library's tree of questions, answered by a rank -/
section
variable {α β : Type} {n : Nat} {r : Nat → Nat} {p : Array Nat}
noncomputable def Ok (n : Nat) (r : Nat → Nat) (Q : α → Prop) : KasT α → Prop
  | .ret a => Q a
  | .ask i j k => i < n ∧ j < n ∧ i ≠ j ∧ Ok n r Q (k (decide (r i < r j)))
theorem Ok.bind {Q : β → Prop} {f : α → KasT β} : ∀ {t : KasT α}, Ok n r (fun a => Ok n r Q (f a)) t → Ok n r Q (t.bind f)
  | .ret _, h => h
  | .ask _ _ k, h => ⟨h.1, h.2.1, h.2.2.1, Ok.bind (t := k _) h.2.2.2⟩
theorem Ok.mono {Q Q' : α → Prop} (hq : ∀ a, Q a → Q' a) : ∀ {t : KasT α}, Ok n r Q t → Ok n r Q' t
  | .ret a, h => hq a h
  | .ask _ _ k, h => ⟨h.1, h.2.1, h.2.2.1, Ok.mono hq (t := k _) h.2.2.2⟩
theorem Ok.wp {cmp : Nat → Nat → (Bool → Shared → Prop) → Shared → Prop} {Q : α → Prop} {G : α → Shared → Prop} {s : Shared} (ask : ∀ i j C, i < n → j < n → i ≠ j → C (decide (r i < r j)) s → cmp i j C s) (hG : ∀ a, Q a → G a s) :
    ∀ {t : KasT α}, Ok n r Q t → t.kasWp cmp G s
  | .ret a, h => hG a h
  | .ask i j k, h => ask i j _ h.1 h.2.1 h.2.2.1 (Ok.wp ask hG (t := k _) h.2.2.2)
noncomputable def Inv (n : Nat) (p : Array Nat) : Prop := p.toList.Perm (List.range n)
noncomputable def gk (r : Nat → Nat) (p : Array Nat) (i : Nat) : Nat := r (p.getD i 0)
noncomputable def Up (r : Nat → Nat) (p : Array Nat) (k : Nat) : Prop := ∀ i j, i < j → j < k → gk r p i < gk r p j
noncomputable def Down (r : Nat → Nat) (p : Array Nat) (k : Nat) : Prop := ∀ i j, i < j → j < k → gk r p j < gk r p i
theorem Inv.size (h : Inv n p) : p.size = n := by
  have := h.length_eq
  simpa using this
theorem getD_of {q : Array Nat} {i : Nat} (h : i < q.size) : q.getD i 0 = q[i] := by simp [Array.getD, h]
theorem getD_opt {q : Array Nat} {i : Nat} : q.getD i 0 = q[i]?.getD 0 := by
  by_cases h : i < q.size <;> simp [Array.getD, h]
theorem Inv.lt (h : Inv n p) {i : Nat} (hi : i < n) : p.getD i 0 < n := by
  have hs := h.size
  have hi' := lt_eq hi hs
  rw [getD_of hi']
  have : p[i] ∈ p.toList := by simp
  exact List.mem_range.mp (h.mem_iff.mp this)
theorem Inv.ne (h : Inv n p) {i j : Nat} (hi : i < n) (hj : j < n) (hij : i ≠ j) : p.getD i 0 ≠ p.getD j 0 := by
  have hs := h.size
  rw [getD_of (lt_eq hi hs), getD_of (lt_eq hj hs)]
  intro e
  have nd : p.toList.Nodup := h.nodup_iff.mpr List.nodup_range
  have hi' : i < p.toList.length := lt_eq hi hs
  have hj' : j < p.toList.length := lt_eq hj hs
  exact hij ((List.getElem_inj (h₀ := hi') (h₁ := hj') nd).mp (by simpa using e))
theorem Inv.of_perm {q : Array Nat} (h : Inv n p) (hp : q.Perm p) : Inv n q := (Array.perm_iff_toList_perm.mp hp).trans h
theorem Up.succ {k : Nat} (h : Up r p k) (hk : 1 ≤ k) (e : gk r p (k - 1) < gk r p k) : Up r p (k + 1) := fun i j hij hj => by
  by_cases hjk : j < k
  · exact h i j hij hjk
  · obtain rfl : j = k := Nat.eq_of_lt_succ_of_not_lt hj hjk
    by_cases hi : i = j - 1
    · rw [hi]; exact e
    · exact Nat.lt_trans (h i (j - 1) (Nat.lt_of_le_of_ne (le_pred hij) hi) (Nat.sub_lt hk Nat.one_pos)) e
theorem Down.succ {k : Nat} (h : Down r p k) (hk : 1 ≤ k) (e : gk r p k < gk r p (k - 1)) : Down r p (k + 1) := fun i j hij hj => by
  by_cases hjk : j < k
  · exact h i j hij hjk
  · obtain rfl : j = k := Nat.eq_of_lt_succ_of_not_lt hj hjk
    by_cases hi : i = j - 1
    · rw [hi]; exact e
    · exact Nat.lt_trans e (h i (j - 1) (Nat.lt_of_le_of_ne (le_pred hij) hi) (Nat.sub_lt hk Nat.one_pos))
theorem ok_yes {Q : α → Prop} {i j : Nat} {t₁ t₂ : KasT α} (a : i < n) (b : j < n) (c : i ≠ j) (e : r i < r j) (h : Ok n r Q t₁) : Ok n r Q (.ask i j fun c => if c = true then t₁ else t₂) :=
  ⟨a, b, c, by rw [decide_eq_true e]; exact h⟩
theorem ok_no {Q : α → Prop} {i j : Nat} {t₁ t₂ : KasT α} (a : i < n) (b : j < n) (c : i ≠ j) (e : ¬ r i < r j) (h : Ok n r Q t₂) : Ok n r Q (.ask i j fun c => if c = true then t₁ else t₂) :=
  ⟨a, b, c, by rw [decide_eq_false e]; exact h⟩
variable (inj : ∀ i j, i < n → j < n → i ≠ j → r i ≠ r j)
include inj
theorem ok_asc (hI : Inv n p) {nrem : Nat} (hn : nrem ≤ n) : ∀ (f k : Nat), 1 ≤ k → k + f = nrem → Up r p k → Ok n r (fun m => k ≤ m ∧ m ≤ nrem ∧ Up r p m ∧ (m = nrem ∨ gk r p m < gk r p (m - 1))) (kas_asc p f k)
  | 0, k, h1, hk, hu => ⟨Nat.le_refl _, Nat.le_of_eq hk, hu, .inl hk⟩
  | f + 1, k, h1, hk, hu => by
    unfold kas_asc
    have hkr := add1_lt hk
    have hkn := Nat.lt_of_lt_of_le hkr hn
    have hk1 := Nat.lt_of_le_of_lt (Nat.sub_le k 1) hkn
    have a1 := hI.lt hkn
    have a2 := hI.lt hk1
    have a3 := hI.ne hkn hk1 (sub1_ne h1)
    by_cases hc : gk r p k < gk r p (k - 1)
    · exact ok_yes a1 a2 a3 hc ⟨Nat.le_refl _, Nat.le_of_lt hkr, hu, .inr hc⟩
    · have hne := inj _ _ a1 a2 a3
      exact ok_no a1 a2 a3 hc ((ok_asc hI hn f (k + 1) (Nat.le_add_left 1 k) (add1_eq hk) (hu.succ h1 (lt_of_not hc hne))).mono fun m hm => ⟨Nat.le_of_succ_le hm.1, hm.2⟩)
theorem ok_desc (hI : Inv n p) {nrem : Nat} (hn : nrem ≤ n) : ∀ (f k : Nat), 1 ≤ k → k + f = nrem → Down r p k → Ok n r (fun x => x.1 = p ∧ x.2.2 = 0 ∧ k ≤ x.2.1 ∧ x.2.1 ≤ nrem ∧ Down r p x.2.1) (kas_desc f p k 0)
  | 0, k, h1, hk, hu => ⟨rfl, rfl, Nat.le_refl _, Nat.le_of_eq hk, hu⟩
  | f + 1, k, h1, hk, hu => by
    unfold kas_desc
    have hkr := add1_lt hk
    have hkn := Nat.lt_of_lt_of_le hkr hn
    have hk1 := Nat.lt_of_le_of_lt (Nat.sub_le k 1) hkn
    have a1 := hI.lt hkn
    have a2 := hI.lt hk1
    have a3 := hI.ne hkn hk1 (sub1_ne h1)
    by_cases hc : gk r p k < gk r p (k - 1)
    · refine ok_yes a1 a2 a3 hc ?_
      rw [if_neg (Nat.lt_irrefl 0)]
      exact (ok_desc hI hn f (k + 1) (Nat.le_add_left 1 k) (add1_eq hk) (hu.succ h1 hc)).mono fun m hm => ⟨hm.1, hm.2.1, Nat.le_of_succ_le hm.2.2.1, hm.2.2.2⟩
    · have hne := inj _ _ a1 a2 a3
      exact ok_no a1 a2 a3 hc (ok_yes a2 a1 (Ne.symm a3) (lt_of_not hc hne) ⟨rfl, rfl, Nat.le_refl _, Nat.le_of_lt hkr, hu⟩)
omit inj in
theorem gk_rev {m : Nat} (hm : m ≤ p.size) (i : Nat) (hi : i < m) : gk r (kas_rev p 0 m) i = gk r p (m - 1 - i) := by
  have e := getElem?_mirror_all (xs := p) (i := 0) (j := m) hm i
  rw [if_pos ⟨Nat.zero_le _, hi⟩] at e
  unfold gk kas_rev
  rw [getD_opt (i := i), getD_opt (i := m - 1 - i), e]
  congr 3
  rw [Nat.zero_add]
omit inj in
theorem up_rev {m : Nat} (hm : m ≤ p.size) (h : Down r p m) : Up r (kas_rev p 0 m) m := fun i j hij hj => by
  have hp := Nat.lt_of_le_of_lt (Nat.zero_le _) hj
  rw [gk_rev hm i (Nat.lt_trans hij hj), gk_rev hm j hj]
  exact h _ _ (Nat.sub_lt_sub_left (Nat.lt_of_lt_of_le hij (le_pred hj)) hij) (Nat.lt_of_le_of_lt (Nat.sub_le _ _) (Nat.sub_lt hp Nat.one_pos))
theorem ok_descPart (hI : Inv n p) {k : Nat} (h1 : 1 ≤ k) (hk : k < n) (hd : Down r p (k + 1)) : Ok n r (fun x => Inv n x.2 ∧ 1 ≤ x.1 ∧ x.1 ≤ n ∧ Up r x.2 x.1) (kas_descPart k n p) := by
  unfold kas_descPart
  refine ((ok_desc inj hI (Nat.le_refl n) (n - (k + 1)) (k + 1) (Nat.le_add_left 1 k) (Nat.add_sub_cancel' hk) hd).mono ?_).bind
  rintro ⟨p', m, q⟩ ⟨rfl, rfl, hm1, hm2, hdm⟩
  dsimp only at *
  rw [if_neg (Nat.lt_irrefl 0)]
  unfold kas_tail3
  have hs := hI.size
  have hI' : Inv n (kas_rev p' 0 m) := hI.of_perm (mirror_perm _ _ _ _)
  refine ((ok_asc inj hI' (Nat.le_refl n) (n - m) m (Nat.le_of_succ_le (Nat.le_trans (Nat.succ_le_succ h1) hm1)) (Nat.add_sub_cancel' hm2) (up_rev (Nat.le_trans hm2 (Nat.le_of_eq hs.symm)) hdm)).mono ?_).bind
  rintro m' ⟨a1, a2, a3, -⟩
  exact ⟨hI', Nat.le_trans h1 (Nat.le_trans (Nat.le_of_succ_le hm1) a1), a2, a3⟩
theorem ok_count (hI : Inv n p) (hn : 1 ≤ n) : Ok n r (fun x => Inv n x.2 ∧ 1 ≤ x.1 ∧ x.1 ≤ n ∧ Up r x.2 x.1) (kas_count n p) := by
  unfold kas_count
  refine ((ok_asc inj hI (Nat.le_refl n) (n - 1) 1 (Nat.le_refl _) (Nat.add_sub_cancel' hn) (fun i j h1 h2 => absurd (Nat.lt_of_lt_of_le h1 (Nat.le_of_lt_succ h2)) (Nat.not_lt_zero i))).mono ?_).bind
  rintro m ⟨a1, a2, a3, a4⟩
  by_cases hm : m = n
  · rw [if_pos (by simpa using hm)]
    exact ⟨hI, a1, a2, a3⟩
  · rw [if_neg (by simpa using hm)]
    by_cases h1 : m > 1
    · rw [if_pos h1]
      have hm1 : m - 1 < m := Nat.sub_lt a1 Nat.one_pos
      have hm2 := Nat.lt_of_lt_of_le hm1 a2
      have hm0 : 0 < m - 1 := Nat.sub_pos_of_lt h1
      exact ok_yes (hI.lt hn) (hI.lt hm2) (hI.ne hn hm2 (Nat.ne_of_lt hm0)) (a3 0 (m - 1) hm0 hm1) ⟨hI, a1, a2, a3⟩
    · rw [if_neg h1]
      obtain rfl : 1 = m := Nat.le_antisymm a1 (Nat.le_of_not_lt h1)
      refine ok_descPart inj hI (Nat.le_refl _) (Nat.lt_of_le_of_ne hn hm) fun i j hij hj => ?_
      obtain rfl : i = 0 := Nat.lt_one_iff.mp (Nat.lt_of_lt_of_le hij (Nat.le_of_lt_succ hj))
      obtain rfl : j = 1 := Nat.le_antisymm (Nat.le_of_lt_succ hj) hij
      exact a4.resolve_left hm
theorem ok_place (hI : Inv n p) {k : Nat} (hk : k < n) (hu : Up r p k) : ∀ (f l h : Nat), l ≤ h → h ≤ k → h ≤ l + f → (∀ i, i < l → gk r p i < gk r p k) → (∀ i, h ≤ i → i < k → gk r p k < gk r p i) →
    Ok n r (fun m => m ≤ k ∧ (∀ i, i < m → gk r p i < gk r p k) ∧ (∀ i, m ≤ i → i < k → gk r p k < gk r p i)) (kas_place p k f l h)
  | 0, l, h, a, b, c, d, e => ⟨Nat.le_trans a b, d, fun i hi hik => e i (Nat.le_trans c hi) hik⟩
  | f + 1, l, h, a, b, c, d, e => by
    unfold kas_place
    by_cases hlh : l ≥ h
    · rw [if_pos hlh]; exact ⟨Nat.le_trans a b, d, fun i hi hik => e i (Nat.le_trans hlh hi) hik⟩
    · rw [if_neg hlh]
      have hm0 := mid_lt hlh
      have hm := Nat.lt_of_lt_of_le hm0 b
      have hmn := Nat.lt_trans hm hk
      have a1 := hI.lt hk
      have a2 := hI.lt hmn
      have a3 := hI.ne hk hmn (Nat.ne_of_gt hm)
      by_cases hc : gk r p k < gk r p ((l + h) / 2)
      · refine ok_yes a1 a2 a3 hc (ok_place hI hk hu f l ((l + h) / 2) (mid_ge hlh) (Nat.le_of_lt hm) (Nat.le_of_lt_succ (Nat.lt_of_lt_of_le hm0 c)) d fun i hi hik => ?_)
        by_cases ei : i = (l + h) / 2
        · rw [ei]; exact hc
        · exact Nat.lt_trans hc (hu _ _ (Nat.lt_of_le_of_ne hi (Ne.symm ei)) hik)
      · have hne := inj _ _ a1 a2 a3
        have hc' : gk r p ((l + h) / 2) < gk r p k := lt_of_not hc hne
        refine ok_no a1 a2 a3 hc (ok_place hI hk hu f ((l + h) / 2 + 1) h hm0 b (Nat.le_trans c (Nat.le_trans (Nat.add_le_add_right (mid_ge hlh) (f + 1)) (Nat.le_of_eq (add1_eq rfl).symm))) (fun i hi => ?_) e)
        by_cases ei : i = (l + h) / 2
        · rw [ei]; exact hc'
        · exact Nat.lt_trans (hu i ((l + h) / 2) (Nat.lt_of_le_of_ne (Nat.le_of_lt_succ hi) ei) hm) hc'
omit inj in
theorem gk_bubble {k l : Nat} (hk : k < p.size) (hl : l ≤ k) (i : Nat) : gk r (bubble p k (k - l)) i = if i = l then gk r p k else if l < i ∧ i ≤ k then gk r p (i - 1) else gk r p i := by
  have e := getElem?_bubble hk (k - l) (Nat.sub_le k l) i
  rw [Nat.sub_sub_self hl] at e
  unfold gk
  simp only [getD_opt]
  rw [e]
  split
  · rfl
  · split
    · rfl
    · rfl
omit inj in
theorem up_bubble {k l : Nat} (hk : k < p.size) (hl : l ≤ k) (hu : Up r p k) (d : ∀ i, i < l → gk r p i < gk r p k) (e : ∀ i, l ≤ i → i < k → gk r p k < gk r p i) : Up r (bubble p k (k - l)) (k + 1) := fun i j hij hj => by
  rw [gk_bubble hk hl, gk_bubble hk hl]
  have hjk := Nat.le_of_lt_succ hj
  by_cases hi : i = l
  · have hlj := Nat.lt_of_le_of_lt (Nat.le_of_eq hi.symm) hij
    rw [if_pos hi, if_neg (Nat.ne_of_gt hlj), if_pos ⟨hlj, hjk⟩]
    exact e _ (le_pred hlj) (Nat.lt_of_lt_of_le (Nat.sub_lt (Nat.zero_lt_of_lt hij) Nat.one_pos) hjk)
  · rw [if_neg hi]
    by_cases hj' : j = l
    · rw [if_pos hj', if_neg fun h => Nat.lt_asymm h.1 (Nat.lt_of_lt_of_eq hij hj')]
      exact d _ (Nat.lt_of_lt_of_eq hij hj')
    · rw [if_neg hj']
      by_cases h1 : l < i ∧ i ≤ k
      · rw [if_pos h1, if_pos ⟨Nat.lt_trans h1.1 hij, hjk⟩]
        exact hu _ _ (Nat.sub_lt_sub_right (Nat.succ_le_of_lt (Nat.zero_lt_of_lt h1.1)) hij) (Nat.lt_of_lt_of_le (Nat.sub_lt (Nat.zero_lt_of_lt hij) Nat.one_pos) hjk)
      · rw [if_neg h1]
        have hil : i < l := Nat.lt_of_le_of_ne (Nat.le_of_not_lt fun h => h1 ⟨h, Nat.le_trans (Nat.le_of_lt hij) hjk⟩) hi
        by_cases h2 : l < j ∧ j ≤ k
        · rw [if_pos h2]
          exact hu _ _ (Nat.lt_of_lt_of_le hil (le_pred h2.1)) (Nat.lt_of_lt_of_le (Nat.sub_lt (Nat.zero_lt_of_lt hij) Nat.one_pos) hjk)
        · rw [if_neg h2]
          have hjl : j < l := Nat.lt_of_le_of_ne (Nat.le_of_not_lt fun h => h2 ⟨h, hjk⟩) hj'
          exact hu _ _ hij (Nat.lt_of_lt_of_le hjl hl)
theorem ok_bin : ∀ (f k : Nat) (p : Array Nat), Inv n p → k + f = n → Up r p k → Ok n r (fun x => Inv n x ∧ Up r x n) (kas_bin f p k)
  | 0, k, p, hI, hk, hu => ⟨hI, by rw [← hk]; exact hu⟩
  | f + 1, k, p, hI, hk, hu => by
    unfold kas_bin
    have hs := hI.size
    refine ((ok_place inj hI (k := k) (add1_lt hk) hu k 0 k (Nat.zero_le _) (Nat.le_refl _) (Nat.le_of_eq (Nat.zero_add k).symm) (fun i hi => absurd hi (Nat.not_lt_zero i)) (fun i h1 h2 => absurd h2 (Nat.not_lt.mpr h1))).mono ?_).bind
    rintro l ⟨a, b, c⟩
    exact ok_bin f (k + 1) _ (hI.of_perm (bubble_perm _ _ _)) (add1_eq hk) (up_bubble (lt_eq (add1_lt hk) hs) a hu b c)
theorem ok_sort (hn : 1 ≤ n) : Ok n r (fun x => Inv n x ∧ Up r x n) (kas_sort n) := by
  unfold kas_sort
  refine ((ok_count inj (p := List.toArray (List.range n)) (by show List.Perm _ _; simp) hn).mono ?_).bind
  rintro ⟨m, p⟩ ⟨a, b, c, d⟩
  dsimp only at *
  by_cases h : m < n
  · rw [if_pos h]
    exact ok_bin inj _ _ _ a (by show max m 1 + (n - max m 1) = n; rw [Nat.max_eq_left b]; exact Nat.add_sub_cancel' c) (by rw [Nat.max_eq_left b]; exact d)
  · rw [if_neg h]
    have e : m = n := Nat.le_antisymm c (Nat.le_of_not_lt h)
    rw [e] at d
    exact ⟨a, d⟩
end
end Mine
end
section
theorem Mine.anewSp : True := by w_top off; trivial
namespace Mine
/-- a row of pairs of numbers -/
noncomputable def PairsOf (h : Heap) (vs : List Value) (ps : List (Nat × Nat)) : Prop := vs.length = ps.length ∧ ∀ (i a b : Nat), ps[i]? = some (a, b) → ∃ (T : Addr) (t1 t2 : Tok), vs[i]? = some (.ref T) ∧ h.IsTuple T #[.int (a : Int) t1, .int (b : Int) t2]
noncomputable def Rises (ps : List (Nat × Nat)) : Prop := ps.Pairwise fun p q => p.1 < q.1 ∨ (p.1 = q.1 ∧ p.2 < q.2)
section
variable {prog : Program} {w : World} {A : Around} {E : Value → Shared → Prop} {s : Shared} {h₀ : Heap} {L a : Addr} {m : Str → Option Value} {news : List (Addr × Obj)} {vs : List Value} {ps : List (Nat × Nat)}
theorem PairsOf.kp {h h' : Heap} (x : PairsOf h vs ps) (k : Kp h h') : PairsOf h' vs ps := ⟨x.1, fun i a b e => let ⟨T, t1, t2, e1, o, ho, r⟩ := x.2 i a b e; ⟨T, t1, t2, e1, o, k _ o ho, r⟩⟩
theorem PairsOf.tail {h : Heap} {v : Value} {q : Nat × Nat} (x : PairsOf h (v :: vs) (q :: ps)) : PairsOf h vs ps := ⟨by simpa using x.1, fun i a b e => x.2 (i + 1) a b (by simpa using e)⟩
theorem PairsOf.tups {h : Heap} : ∀ {vs : List Value} {ps : List (Nat × Nat)}, PairsOf h vs ps → ∃ fs, KatTups h vs fs ∧ fs.length = vs.length ∧ ∀ f ∈ fs, ∃ (a : Int) (t : Tok), f = .int a t
  | [], [], _ => ⟨[], KatTups.nil, rfl, fun _ h => nomatch h⟩
  | [], _ :: _, x => by have := x.1; simp at this
  | _ :: _, [], x => by have := x.1; simp at this
  | v :: vs, (a, b) :: ps, x => by
    obtain ⟨fs, h1, h2, h3⟩ := x.tail.tups
    obtain ⟨T, t1, t2, e, o, ho, hc, n, hd⟩ := x.2 0 a b rfl
    simp only [List.getElem?_cons_zero, Option.some.injEq] at e
    subst e
    refine ⟨.int (a : Int) t1 :: fs, KatTups.cons ho hc hd rfl h1, by simp [h2], fun f hf => ?_⟩
    rcases List.mem_cons.mp hf with rfl | hf
    · exact ⟨_, _, rfl⟩
    · exact h3 f hf
theorem getD_at {ps : List (Nat × Nat)} {i : Nat} (h : i < ps.length) : ps.getD i (0, 0) = ps[i] := by simp [h]
noncomputable def rank (ps : List (Nat × Nat)) (i : Nat) : Nat := (ps.getD i (0, 0)).1 * 4294967296 + (ps.getD i (0, 0)).2
theorem lexLt {a b c d : Nat} (h : a < c) (hb : b < 4294967296) : a * 4294967296 + b < c * 4294967296 + d :=
  Nat.lt_of_lt_of_le (Nat.add_lt_add_left hb _) (Nat.le_trans (Nat.le_trans (Nat.le_of_eq (Nat.succ_mul a 4294967296).symm) (Nat.mul_le_mul_right 4294967296 h)) (Nat.le_add_right _ _))
theorem lexB {a b c d : Nat} (hb : b < 4294967296) (hd : d < 4294967296) : a * 4294967296 + b < c * 4294967296 + d ↔ a < c ∨ (a = c ∧ b < d) := by
  constructor
  · intro e
    rcases Nat.lt_trichotomy a c with h | rfl | h
    · exact .inl h
    · exact .inr ⟨rfl, Nat.lt_of_add_lt_add_left e⟩
    · exact absurd e (Nat.lt_asymm (lexLt h hd))
  · rintro (h | ⟨rfl, h⟩)
    · exact lexLt h hb
    · exact Nat.add_lt_add_left h _
theorem lexEq {a b c d : Nat} (hb : b < 4294967296) (hd : d < 4294967296) (e : a * 4294967296 + b = c * 4294967296 + d) : a = c ∧ b = d := by
  rcases Nat.lt_trichotomy a c with h | rfl | h
  · exact absurd e (Nat.ne_of_lt (lexLt h hb))
  · exact ⟨rfl, Nat.add_left_cancel e⟩
  · exact absurd e (Nat.ne_of_gt (lexLt h hd))
theorem pairs_lt {x y : Addr} {a b c d : Nat} {t1 t2 t3 t4 : Tok} {Q : Bool → Shared → Prop} (hx : s.heap.IsTuple x #[.int (a : Int) t1, .int (b : Int) t2]) (hy : s.heap.IsTuple y #[.int (c : Int) t3, .int (d : Int) t4]) (hb : b < 4294967296) (hd : d < 4294967296)
    (h : Q (decide (a * 4294967296 + b < c * 4294967296 + d)) s) : wpAny (model prog w) A (keyLt' (tuples' true) (.ref x) (.ref y)) Q E s := by
  obtain ⟨ox, hox, _, nx, dx⟩ := hx
  obtain ⟨oy, hoy, _, ny, dy⟩ := hy
  refine kat_lt hox dx hoy dy (kat_cons (wpAny_eqBool_int (kat_go (fun e => kat_yes (kat_cons (wpAny_eqBool_int (kat_go (fun e2 => kat_yes (kat_nil ?_)) fun e2 => kat_no (kat_one _ _ ?_))))) fun e => kat_no (oneLt_int ?_))))
  · have e : a = c := by exact Int.ofNat_inj.mp (eq_of_beq e)
    have e2 : b = d := by exact Int.ofNat_inj.mp (eq_of_beq e2)
    subst e; subst e2
    simpa using h
  · have e : a = c := by exact Int.ofNat_inj.mp (eq_of_beq e)
    subst e
    k_steps
    rw [show decide (((b : Nat) : Int) < (d : Int)) = decide (a * 4294967296 + b < a * 4294967296 + d) from decide_eq_decide.mpr (Int.ofNat_lt.trans Nat.add_lt_add_iff_left.symm)]
    exact h
  · have e : ¬ a = c := fun z => by rw [z] at e; simp at e
    rw [show decide (((a : Nat) : Int) < (c : Int)) = decide (a * 4294967296 + b < c * 4294967296 + d) from decide_eq_decide.mpr (Int.ofNat_lt.trans ((lexB (by assumption) (by assumption)).trans ⟨fun h => h.elim id fun h => absurd h.1 e, .inl⟩).symm)]
    exact h
theorem sorted_short {l : Addr} {Q : Value → Shared → Prop} (F : Fr h₀ L s.heap m) (N : News h₀ L s.heap news) (hl : s.heap.IsList l vs.toArray) (h2 : vs.length < 2)
    (h : ∀ D n h', Fr h₀ L h' m → News h₀ L h' ((D, seqObj "list" vs.toArray n) :: news) → Q (.ref D) { s with heap := h' }) : wpAny (model prog w) A (call (.builtin "sorted") [.ref l]) Q E s := by
  refine Calls.call_function_entry kind_sorted plain_sorted entry_sorted (args_sorted1 _) ?_
  unfold Builtin.«sorted»
  refine wpAny_bind (m := checkCount "sorted" 1 1 _) (wpAny_pure ?_)
  refine wpAny_bind (collect_list hl ?_ (by rw [sizeLine_eq]; exact Nat.le_trans (Nat.le_of_lt (by assumption)) (by decide)))
  refine wpAny_bind (wpAny_newList ?_ (by rw [sizeLine_eq]; exact Nat.le_trans (Nat.le_of_lt (by assumption)) (by decide)))
  generalize hH : (s.heap.push (seqObj "list" #[] 0)).update s.heap.objs.size (Obj.mapSeq (· ++ vs.toArray)) = H
  have hsz : H.objs.size = s.heap.objs.size + 1 := by rw [← hH, Heap.size_update, size_push']
  have keep : ∀ b o, s.heap.get? b = some o → H.get? b = some o := fun b o q => by
    rw [← hH, Heap.get?_update_ne _ _ _ _ (Nat.ne_of_lt (Heap.lt_size q))]
    exact Heap.get?_push_of_some _ q
  have hL : L < s.heap.objs.size := F.ns.lt
  show wpAny _ _ _ _ _ { s with heap := H.push (seqObj "list" vs.toArray 0) }
  have hoL : (H.push (seqObj "list" vs.toArray 0)).get? H.objs.size = some (seqObj "list" vs.toArray 0) := Heap.get?_push_size _ rfl
  have hD₀ : h₀.get? H.objs.size = none := Heap.get?_none_of_le (Nat.le_trans F.above (Nat.le_trans (Nat.le_of_lt hL) (by rw [hsz]; exact Nat.le_succ _)))
  have hDL : H.objs.size ≠ L := by rw [hsz]; exact Ne.symm (Nat.ne_of_lt (Nat.lt_succ_of_lt hL))
  refine wpAny_bind (wpAny_holding (wpAny_call_entry slot_list_sort ⟨_, hoL, rfl⟩ entry_list_sort ?body (args_list_sort _)))
  rw [list_sort_plain]
  generalize H.objs.size = D at *
  refine wpAny_bind (listItems_at hoL rfl ?_)
  refine wpAny_bind (listUpdate_at hoL rfl ?_ (by rw [List.size_toArray, sizeLine_eq]; exact Nat.le_trans (Nat.le_of_lt (by assumption)) (by decide)) (Nat.zero_le _))
  dsimp only
  generalize hH₂ : (H.push (seqObj "list" vs.toArray 0)).update D (Obj.mapSeq fun _ => #[]) = H₂
  obtain ⟨e1, ho1⟩ : ∃ e1, H₂.get? D = some (seqObj "list" #[] e1) := ⟨_, by rw [← hH₂]; exact get?_update_seq hoL (fun _ => #[])⟩
  refine wpAny_bind (seqEpoch_at ho1 rfl ?_)
  refine wpAny_bind (wpAny_newTuple ?_ (by show vs.length ≤ _; rw [sizeLine_eq]; exact Nat.le_trans (Nat.le_of_lt (by assumption)) (by decide)))
  refine wpAny_bind (wpAny_newList ?_ (Nat.zero_le _))
  refine wpAny_holding ?_
  dsimp only
  show wpAny (model prog w) _ _ _ _ { s with heap := (H₂.push (seqObj "tuple" vs.toArray 0)).push (seqObj "list" #[] 0) }
  generalize hH₃ : (H₂.push (seqObj "tuple" vs.toArray 0)).push (seqObj "list" #[] 0) = H₃
  have ho3 : H₃.get? D = some (seqObj "list" #[] e1) := by rw [← hH₃]; exact Heap.get?_push_of_some _ (Heap.get?_push_of_some _ ho1)
  have hs2 : vs.toArray.size < 2 := by rw [List.size_toArray]; exact h2
  rw [if_pos hs2, if_pos hs2]
  refine wpAny_bind (wpAny_pure ?_)
  rw [StateT.run_pure]
  refine wpAny_bind (wpAny_pure ?_)
  dsimp only
  refine wpAny_bind (seqEpoch_at ho3 rfl ?_)
  refine wpAny_bind (listUpdate_at ho3 rfl ?_ (hsz2 := by rw [Array.size_map]; show (pairsOf vs).size ≤ _; rw [pairsOf_size, sizeLine_eq]; exact Nat.le_trans (Nat.le_of_lt (by assumption)) (by decide)))
  simp only [bne_self_eq_false, Bool.false_eq_true, if_false]
  refine wpAny_pure ⟨_, rfl, wpAny_pure ⟨_, rfl, ?_⟩⟩
  have fin : ∀ b o, s.heap.get? b = some o → (H₃.update D (Obj.mapSeq fun x => Array.map (fun x => x.snd) (arrOf (SortSt.mk' general' (vs.toArray.zip vs.toArray) #[] 7 none)))).get? b = some o := fun b o q => by
    have hb : b ≠ D := by rw [hsz]; exact Nat.ne_of_lt (Nat.lt_succ_of_lt (Heap.lt_size q))
    rw [Heap.get?_update_ne _ _ _ _ hb, ← hH₃]
    refine Heap.get?_push_of_some _ (Heap.get?_push_of_some _ ?_)
    rw [← hH₂, Heap.get?_update_ne _ _ _ _ hb]
    exact Heap.get?_push_of_some _ (keep b o q)
  have e : Array.map (fun x => x.snd) (arrOf (SortSt.mk' general' (vs.toArray.zip vs.toArray) #[] 7 none)) = vs.toArray := by
    show Array.map (fun x => x.snd) (vs.toArray.zip vs.toArray) = vs.toArray
    apply Array.ext
    · simp
    · intro i h1 h2
      simp
  rw [e] at fin ⊢
  obtain ⟨n4, ho4⟩ : ∃ n4, (H₃.update D (Obj.mapSeq fun _ => vs.toArray)).get? D = some (seqObj "list" vs.toArray n4) := ⟨_, get?_update_seq ho3 fun _ => vs.toArray⟩
  refine h D n4 _ (F.kept fin) fun p hp => ?_
  rcases List.mem_cons.mp hp with rfl | hp
  · exact ⟨ho4, hDL, hD₀⟩
  · exact ⟨fin _ _ (N p hp).1, (N p hp).2⟩
/-- sorted(pairs of numbers) -/
theorem sorted_pairs {l : Addr} {Q : Value → Shared → Prop} (F : Fr h₀ L s.heap m) (N : News h₀ L s.heap news) (hl : s.heap.IsList l vs.toArray) (h64 : ps.length < 64) (hp : ∀ h', Fr h₀ L h' m → News h₀ L h' news → PairsOf h' vs ps)
    (nd : ps.Nodup) (hb : ∀ p ∈ ps, p.2 < 4294967296)
    (h : ∀ D n h' vs' ps', Fr h₀ L h' m → News h₀ L h' ((D, seqObj "list" vs'.toArray n) :: news) → (∀ h'', PairsOf h'' vs ps → PairsOf h'' vs' ps') → ps'.Perm ps → Rises ps' → Q (.ref D) { s with heap := h' }) : wpAny (model prog w) A (call (.builtin "sorted") [.ref l]) Q E s := by
  have hlen : vs.length = ps.length := (hp _ F N).1
  have off : ∀ {h' : Heap} {D : Addr} {o : Obj}, News h₀ L h' ((D, o) :: news) → News h₀ L h' news := fun N' p hp => N' p (.tail _ hp)
  by_cases h2 : vs.length < 2
  · refine sorted_short F N hl h2 fun D n h' F' N' => h D n h' vs ps F' N' (fun _ x => x) (.refl _) ?_
    match ps, hlen with
    | [], _ => exact List.Pairwise.nil
    | [_], _ => exact List.pairwise_singleton _ _
    | _ :: _ :: _, e => exact absurd h2 (by rw [e]; exact Nat.not_lt.mpr (Nat.le_add_left 2 _))
  · refine kat_sorted F N hl (Nat.le_of_not_lt h2) (Nat.lt_of_le_of_lt (Nat.le_of_eq hlen) h64) fun D e1 h' F' N' hlt => ?_
    have hP := hp h' F' (off N')
    obtain ⟨fs, k1, k2, k3⟩ := hP.tups
    refine kat_kind k1 (by rw [(by assumption : fs.length = vs.length)]; exact Nat.lt_of_lt_of_le (by decide) (Nat.le_of_not_lt h2)) (T := .type "int") (fun v hv => ?_) rfl ?_
    · obtain ⟨a, t, rfl⟩ := k3 v hv
      exact Looks.of_pure rfl
    have inj : ∀ i j, i < vs.length → j < vs.length → i ≠ j → rank ps i ≠ rank ps j := fun i j hi hj hij e => by
      have hi' : i < ps.length := Nat.lt_of_lt_of_eq hi hlen
      have hj' : j < ps.length := Nat.lt_of_lt_of_eq hj hlen
      have e1 := hb ps[i] (List.getElem_mem hi')
      have e2 := hb ps[j] (List.getElem_mem hj')
      unfold rank at e
      rw [getD_at hi', getD_at hj'] at e
      have z := lexEq e1 e2 e
      have : ps[i] = ps[j] := Prod.ext z.1 z.2
      exact hij ((List.getElem_inj nd).mp this)
    refine Ok.wp (fun i j C hi hj hij hC => ?_) (fun p hx => ?_) (ok_sort inj (Nat.le_trans (by decide) (Nat.le_of_not_lt h2)))
    · have hi' : i < ps.length := Nat.lt_of_lt_of_eq hi hlen
      have hj' : j < ps.length := Nat.lt_of_lt_of_eq hj hlen
      obtain ⟨T1, t1, t2, ei, hT1⟩ := hP.2 i ps[i].1 ps[i].2 (by simp [hi'])
      obtain ⟨T2, t3, t4, ej, hT2⟩ := hP.2 j ps[j].1 ps[j].2 (by simp [hj'])
      unfold kas_ask
      rw [show vs.getD i Value.none = .ref T1 by simp [ei], show vs.getD j Value.none = .ref T2 by simp [ej]]
      refine pairs_lt hT1 hT2 (hb _ (List.getElem_mem hi')) (hb _ (List.getElem_mem hj')) ?_
      unfold rank at hC
      rw [getD_at hi', getD_at hj'] at hC
      exact hC
    · obtain ⟨hI, hU⟩ := hx
      have hsz := hI.size
      refine KasFin.intro F' N' (.head fun p hp => Nat.ne_of_lt (hlt p hp)) fun h3 c F3 N3 => ?_
      refine h D c h3 (p.toList.map fun i => vs.getD i Value.none) (p.toList.map fun i => ps.getD i (0, 0)) F3 N3 (fun h4 hP3 => ⟨by simp, fun i a b e => ?_⟩) ?_ ?_
      · rw [List.getElem?_map] at e
        have hi : i < p.toList.length := by
          rcases Nat.lt_or_ge i p.toList.length with h | h
          · exact h
          · rw [List.getElem?_eq_none h] at e; simp at e
        rw [List.getElem?_eq_getElem hi] at e
        simp only [Option.map_some, Option.some.injEq] at e
        have hk : p.toList[i] < ps.length := by
          have := List.mem_range.mp (hI.mem_iff.mp (List.getElem_mem hi)); exact Nat.lt_of_lt_of_eq this hlen
        rw [getD_at hk] at e
        obtain ⟨T, t1, t2, e1, hT⟩ := hP3.2 p.toList[i] a b (by rw [List.getElem?_eq_getElem hk, e])
        refine ⟨T, t1, t2, ?_, hT⟩
        rw [List.getElem?_map, List.getElem?_eq_getElem hi]
        simp only [Option.map_some, Option.some.injEq]
        rw [List.getD_eq_getElem?_getD, e1]
        rfl
      · have e : ps = (List.range vs.length).map fun i => ps.getD i (0, 0) := by
          apply List.ext_getElem
          · simp [hlen]
          · intro i h1 h2
            simp [h1]
        have := hI.map fun i => ps.getD i (0, 0)
        rw [← e] at this
        exact this
      · unfold Rises
        rw [List.pairwise_map, List.pairwise_iff_getElem]
        intro i j hi hj hij
        have g := hU i j hij (Nat.lt_of_lt_of_eq hj hI.size)
        unfold gk rank at g
        rw [getD_of (by simpa using hi), getD_of (by simpa using hj)] at g
        simp only [Array.getElem_toList]
        have hki : p[i]'(by simpa using hi) < ps.length := by
          have := List.mem_range.mp (hI.mem_iff.mp (List.getElem_mem hi)); simp at this; exact Nat.lt_of_lt_of_eq this hlen
        have hkj : p[j]'(by simpa using hj) < ps.length := by
          have := List.mem_range.mp (hI.mem_iff.mp (List.getElem_mem hj)); simp at this; exact Nat.lt_of_lt_of_eq this hlen
        have b1 := hb _ (List.getElem_mem hki)
        have b2 := hb _ (List.getElem_mem hkj)
        rw [getD_at hki, getD_at hkj] at g ⊢
        exact (lexB b1 b2).mp g
end
end Mine
end
section
local macro_rules | `(tactic| walk_at "zz0") => `(tactic| skip)
theorem Mine.anewEx : True := by w_top off; trivial
namespace Mine
open LCg (NsObj lst)
/-- a call of a def whose locals are captured -/
theorem enterX {K : Frag} {prog : Program} {w : World} {A : Around} {s : Shared} {p : Program} {loose : List Str} {mean : ExcName → Option Value} {mg mb : Str → Option Value} {h₀ : Heap} {news : List (Addr × Obj)}
    {Q E : Value → Shared → Prop} {name qual : Str} {params : Arguments} {body : List Stmt} {scope : Scope} {dV kV doc pm cdv ct oc : Value} {an od : Option Addr} {osl : Array (Option Value)} {f : Addr} {pos : List Value} {kw : List (Str × Value)} (binds : List (Str × Value))
    (X : K.In h₀) (T : Top p loose mean mg mb h₀) (B : Ent h₀ s.heap news)
    (ho : K.lookup f = some ⟨oc, od, .func (fnOf name qual params body scope dV kV doc pm an cdv ct), osl⟩) (hcd : codeIn K cdv qual = true) (hroom : A.depth < recursionLimit)
    (hbind : BindsTo s (fnOf name qual params body scope dV kV doc pm an cdv ct) ⟨pos, kw⟩ binds)
    (hkind : (binds.all fun y => scope.names.lookup y.1 == some .local || scope.names.lookup y.1 == some .cell) = true) (hnd : ((cellsFrom 0 scope.names []).map (·.1)).Nodup)
    (h : ∀ L h₁ tk cells, Fr h₀ L h₁ (bindL (envOfC qual scope L f cdv).kindOf binds fun _ => none) → News h₀ L h₁ (cells ++ news) →
      CellsAre (bindC (envOfC qual scope L f cdv).kindOf binds fun _ => none) (cellsFrom (L + 1) scope.names []) cells →
      wpAny (model prog w) (A.deeper (envOfC qual scope L f cdv)) (execs body (envOfC qual scope L f cdv))
        (fun fl s' => Q (match fl with | .ret v => v | _ => .none) s')
        (fun e s' => wpAny (model prog w) (A.deeper (envOfC qual scope L f cdv)) (leaving (envOfC qual scope L f cdv) e) (fun _ s'' => E e s'') (fun e' s'' => E e' s'') s')
        { s with heap := h₁, toks := tk })
    (hco : scope.isCoroutine = false) (hgen : scope.isGenerator = false) (hk : scope.kind = .function) : wpAny (model prog w) A (call (.ref f) pos kw) Q E s := by
  have T' := T.keeps B.keep
  have X' := Frag.In.keeps X B.keep
  refine wpAny_call (codeAny_call_function hroom (X' _ _ ho) rfl hco hgen rfl (codeRec_of X' hcd) (hbind _ _ _ _ ?_))
  refine wpAny_newFunctionEnv_cells hk (kindsX hkind _) fun env' he s' x => ?_
  subst he
  refine ⟨T'.nolimit.keeps x.toInCall.keep, codeAny_func ?_⟩
  obtain ⟨h₁, tk, rfl, _⟩ := x.done
  have hk₁ := x.toInCall.keep
  obtain ⟨cells, NC, Y⟩ := PyProof.Rows.Cl.news (h₀ := s.heap) (Nat.le_refl _) fun n c hm => ⟨x.cell n c (lookup_of_mem_nodup (cellsFrom_names scope.names 0 (s.heap.objs.size + 1) [] [] rfl ▸ hnd) hm), x.above n c hm⟩
  refine h s.heap.objs.size h₁ tk cells ⟨x.toInCall.ns, fun b o e => hk₁ b o (B.keep b o e), B.size⟩ (fun q hq => ?_) Y
  rcases List.mem_append.mp hq with hq | hq
  · refine ⟨(NC q hq).1, (NC q hq).2.1, ?_⟩
    cases e : h₀.get? q.1 with
    | none => rfl
    | some o => have := B.keep _ _ e; rw [(NC q hq).2.2] at this; cases this
  · exact ⟨hk₁ _ _ (B.led q hq).1, Nat.ne_of_lt (Heap.lt_size (B.led q hq).1), (B.led q hq).2⟩
section
variable {prog : Program} {w : World} {A : Around} {E : Value → Shared → Prop} {s : Shared} {h₀ : Heap} {L a : Addr} {m : Str → Option Value} {v : Value} {cs : List Nat}
theorem len_sg {Q : Value → Shared → Prop} (hv : Sg s.heap v cs) (hz : cs.length ≤ 100000) (h : Q (.int (cs.length : Int) (s.toks + 1)) { s with toks := s.toks + 1 + 1 }) :
    wpAny (model prog w) A (call (.builtin "len") [v]) Q E s := by
  rcases hv with ⟨t, rfl⟩ | ⟨a, vs, rfl, hl, hvs⟩
  · exact len_st (by omega) h
  · have hs : vs.toArray.size = cs.length := by simpa using hvs.1
    exact Calls.call_len_list hl (by omega) (by rw [hs]; exact h)
theorem item_sg {value slice : Expr} {k c : Nat} {kk : Int} {u : Tok} {Q : Value → Shared → Prop} (hv : Sg s.heap v cs) (hz : cs.length ≤ 100000) (hc : cs[k]? = some c) (e : kk = (k : Int)) (h : ∀ t tk, Q (.str (st [c]) t) { s with toks := tk })
    (hs : ∀ v, subscripted slice false v (.int kk u) = operate [v, .int kk u] (getItem v (.int kk u)) := by intro _; with_unfolding_all rfl) (hg : ∀ a r, letTemporaryGo value (.ref a) r = pure () := by intro _ _; with_unfolding_all rfl) :
    wpAny (model prog w) A (subscriptTail value slice v (.int kk u)) Q E s := by
  subst e
  have hk : k < cs.length := (List.getElem?_eq_some_iff.mp hc).1
  rcases hv with ⟨t, rfl⟩ | ⟨a, vs, rfl, hl, hvs⟩
  · refine tail_any (typeIs_str s _ t) slot_str_getitem.lookup (getItem_str (c := c) ?_ ?_ (h _ _)) (hs _)
    · rw [Bool.or_eq_false_iff]; exact ⟨decide_eq_false (by omega), decide_eq_false (by omega)⟩
    · have e : seqIndex? (k : Int) (st cs).length = some k := by
        unfold seqIndex?
        rw [st_len]
        simp
        omega
      rw [e]
      simpa using hc
  · obtain ⟨t, ht⟩ := hvs.2 k c hc
    exact item_list hl (by omega) (by omega) (x := .str (st [c]) t) (by simpa using ht) (h t _) (hs _) (hg _)
end
/-- the signs beyond ascii, with their places, among the first n -/
noncomputable def marks (cs : List Nat) (n : Nat) : List (Nat × Nat) := ((List.range n).filter fun i => 127 < cs.getD i 0).map fun i => (cs.getD i 0, i)
theorem marks_nodup (cs : List Nat) (n : Nat) : (marks cs n).Nodup := by
  unfold marks List.Nodup
  rw [List.pairwise_map]
  exact ((List.nodup_range).filter _).imp fun h e => h (congrArg Prod.snd e)
noncomputable def pairObj (x : Nat × Tok × Nat × Tok) : Obj := { cls := .type "tuple", data := .seq #[.int (x.1 : Int) x.2.1, .int (x.2.2.1 : Int) x.2.2.2] }
theorem pairObj_ok (c : List (Addr × Nat × Tok × Nat × Tok)) : ∀ p ∈ c.map (fun x => (x.1, pairObj x.2)), p.2.cls = .type "tuple" ∧ ∃ its k, p.2.data = .seq its k := by
  rintro p hp
  obtain ⟨x, _, rfl⟩ := List.mem_map.mp hp
  exact ⟨rfl, _, _, rfl⟩
theorem order_spec {prog : Program} {w : World} {A : Around} {s : Shared} {p : Program} {loose : List Str} {mean : ExcName → Option Value} {mg mb : Str → Option Value} {Q E : Value → Shared → Prop}
    (X : (hd.heap_1 w.params).In s.heap) (T : Top p loose mean mg mb s.heap) (hdp : A.depth + 1 < recursionLimit) (hh : A.handled = none)
    {v : Value} {cs : List Nat} (hv : Sg s.heap v cs) (hn : cs.length ≤ 100000) (h64 : (marks cs cs.length).length < 64)
    (ret : ∀ D vs ps (ts : List (Addr × Obj)) n h' tk', Kp s.heap h' → s.heap.get? D = none → h'.get? D = some (seqObj "list" vs.toArray n) → (∀ p ∈ ts, s.heap.get? p.1 = none ∧ h'.get? p.1 = some p.2 ∧ p.1 ≠ D) → (∀ h'' : Heap, (∀ p ∈ ts, h''.get? p.1 = some p.2) → PairsOf h'' vs ps) → ps.Perm (marks cs cs.length) → Rises ps → Q (.ref D) { s with heap := h', toks := tk' }) :
    wpAny (model prog w) A (call (.ref 241) [v]) Q E s := by
  k_dflt (refine' enterX [(Str.ofString "signs", v)] X T (Ent.self _) ?k1 ?k2 (Nat.lt_of_le_of_lt (Nat.le_add_right _ _) hdp) ?k3 ?k4 ?k5 ?_ ?c1 ?c2 ?c3; (case k1 => k_is); (case k2 => k_is); (case k3 => exact BindsTo.of_eq rfl); (case k4 => rfl); (case k5 => decide); (case c1 => exact rfl); (case c2 => exact rfl); (case c3 => exact rfl))
  intro L' h' tk' cells' F' N' Y'
  refine wpAny_mono (E := Fa) ?_ (fun _ _ x => x) (fun _ _ x => x.elim)
  obtain ⟨oS, rfl, hoS⟩ := CellsAre.one Y'
  have hoS' : oS.data = .cell (some v) := hoS
  have F2 : Fr s.heap L' h' (fun _ => none) := F'
  clear F' hoS Y'
  dsimp only [List.append_nil, List.cons_append] at N'
  k_steps
  refine len_sg (hv.kp F2.keep) hn ?_
  k_steps
  rename_i h2 tk2 t1 t2 t3 hR F3 N3 k3
  refine compRange (n := cs.length) hh hR (Nat.le_trans hn (by decide)) (by decide) rfl (by rfl) F3 N3 (fun c : List (Addr × Nat × Tok × Nat × Tok) => c.map fun x => (x.1, pairObj x.2)) pairObj_ok (fun c => c.map fun x => Value.ref x.1)
    (fun i c => c.map (fun x => (x.2.1, x.2.2.2.1)) = marks cs i ∧ c.length ≤ i) [] rfl rfl ⟨rfl, Nat.le_refl _⟩ (fun _ _ h => by simpa using h.2) ?_ ?_
  · rintro i c t hi ⟨hc1, hc2⟩ C oC D I oI m₂ h tk hoC hm F' N'
    have N2 : News s.heap L' h ((L' + 1, oS) :: (C, oC) :: (D, lst (c.map fun x => Value.ref x.1)) :: (I, oI) :: c.map fun x => (x.1, pairObj x.2)) := fun p hp => N' p (by simp at hp ⊢; rcases hp with h | h | h | h | h <;> simp [h])
    clear N' N3 k3 hR
    have hki : cs[i]? = some cs[i] := by simp [hi]
    have hgd : cs.getD i 0 = cs[i] := by simp [hi]
    have hmk : marks cs (i + 1) = marks cs i ++ if 127 < cs[i] then [(cs[i], i)] else [] := by
      unfold marks
      rw [List.range_succ, List.filter_append, List.map_append]
      congr 1
      by_cases h : 127 < cs[i] <;> simp [h, hgd, hki]
    refine wpAny_tests_one ?_
    k_steps
    refine item_sg (hv.kp (Fr.keep (by assumption))) hn hki rfl fun t4 tk4 => ?_
    k_steps
    unfold CTurn
    by_cases hlt : 127 < cs[i]
    · rw [if_pos (decide_eq_true (by omega))]
      k_steps
      refine item_sg (hv.kp (Fr.keep (by assumption))) hn hki rfl fun t5 tk5 => ?_
      k_steps
      rename_i D2 h5 F5 N5 l5
      refine CEnd.intro (c ++ [(D2, cs[i], tk5, i, t)]) F5 N5 (fun p hp => ?_) ⟨by simp, ?_, by simp; omega⟩
      · simp only [List.map_append, List.map_cons, List.map_nil, List.mem_append, List.mem_cons, List.not_mem_nil, or_false] at hp ⊢
        rcases hp with (h | h | h) | ((h | h) | h)
        · exact .inr (.inr (.inl h))
        · exact .inr (.inr (.inr (.inl h)))
        · exact .inr (.inr (.inr (.inr (.inl h))))
        · exact .inr (.inr (.inr (.inr (.inr h))))
        · exact .inl h
        · exact .inr (.inl h)
      · rw [hmk, if_pos hlt, List.map_append, hc1]
        rfl
    · rw [if_neg (by rw [decide_eq_false (by omega)]; exact Bool.false_ne_true)]
      refine CEnd.intro c (by assumption) N2 (fun p hp => ?_) ⟨rfl, ?_, by omega⟩
      · simp at hp ⊢
        rcases hp with h | h | h | h | h <;> simp [h]
      · rw [hmk, if_neg hlt, List.append_nil]
        exact hc1
  · rintro c D h tk ⟨hc1, hc2⟩ F' N'
    have hP : ∀ h' : Heap, (∀ p ∈ c.map (fun x => (x.1, pairObj x.2)), h'.get? p.1 = some p.2) → PairsOf h' (c.map fun x => Value.ref x.1) (marks cs cs.length) := fun h' N5 => by
      rw [← hc1]
      refine ⟨by simp, fun i a b e => ?_⟩
      rw [List.getElem?_map] at e
      cases ec : c[i]? with
      | none => rw [ec] at e; simp at e
      | some x =>
        rw [ec] at e
        simp only [Option.map_some, Option.some.injEq, Prod.mk.injEq] at e
        obtain ⟨rfl, rfl⟩ := e
        exact ⟨x.1, x.2.2.1, x.2.2.2.2, by simp [ec], _, N5 (x.1, pairObj x.2) (List.mem_map_of_mem (f := fun x : Addr × Nat × Tok × Nat × Tok => (x.1, pairObj x.2)) (List.mem_of_getElem? ec)), rfl, _, rfl⟩
    dsimp only
    k_steps
    refine sorted_pairs F' N' ⟨_, News.get N' (.head _), rfl, _, rfl⟩ h64 (fun h' _ N5 => hP h' fun p hp => (N5 p (.tail _ (List.mem_append_left _ hp))).1) (marks_nodup _ _) (fun p hp => ?_) fun D2 n5 h5 vs5 ps5 F5 N5 hp5 hperm hrise => ?_
    · obtain ⟨x, hx, rfl⟩ := List.mem_map.mp hp
      have := List.mem_range.mp (List.mem_filter.mp hx).1
      show x < _
      omega
    · k_steps
      refine ret D2 vs5 ps5 _ n5 h5 _ (Fr.keep F5) (News.fresh N5 (.head _)) (News.get N5 (.head _)) (fun p hp => have z := N5 p (.tail _ (.tail _ (List.mem_append_left _ hp))); ⟨z.2.2, z.1, fun e => ?_⟩) (fun h'' x => hp5 h'' (hP h'' x)) hperm hrise
      obtain ⟨x, _, rfl⟩ := List.mem_map.mp hp
      rw [e] at z
      have := z.1.symm.trans (News.get N5 (.head _))
      exact absurd (congrArg Obj.cls (Option.some.inj this)) (by show Value.type "tuple" ≠ Value.type "list"; decide)
end Mine
end
section
theorem Mine.anewDg : True := by w_top off; trivial
namespace Mine
local macro_rules | `(tactic| walk_at "call ref") => `(tactic| (refine held ?_))
/-- a figure's octet, as a capital -/
noncomputable def up (n : Nat) : Nat := if n < 26 then 65 + n else 22 + n
theorem up_lt {n : Nat} (h : n < 36) : up n < 256 := by unfold up; split <;> exact Nat.lt_trans (Nat.add_lt_add_left h _) (by decide)
/-- the figures stand at a place -/
noncomputable def At (ext : Array UInt8) (e : Nat) (ds : List Nat) : Prop := ∀ (i : Nat) d, ds[i]? = some d → ext[e + i]? = some (up d).toUInt8
theorem At.tail {ext : Array UInt8} {e d : Nat} {ds : List Nat} (h : At ext e (d :: ds)) : At ext (e + 1) ds := fun i x hx => by
  have := h (i + 1) x (by simpa using hx)
  rwa [(add1_eq rfl).symm] at this
theorem At.head {ext : Array UInt8} {e d : Nat} {ds : List Nat} (h : At ext e (d :: ds)) : ext[e]? = some (up d).toUInt8 := h 0 d rfl
theorem item_by {prog : Program} {w : World} {A : Around} {E : Value → Shared → Prop} {s : Shared} {value slice : Expr} {ext : Array UInt8} {k : Nat} {c : UInt8} {kk : Int} {n : Nat} {t u : Tok} {Q : Value → Shared → Prop}
    (hx : ext[k]? = some c) (hz : ext.size ≤ 2 ^ 30) (e : kk = (k : Int)) (hc : c.toNat = n) (h : Q (.int (n : Int) s.toks) { s with toks := s.toks + 1 })
    (hs : subscripted slice false (.bytes ext t) (.int kk u) = operate [.bytes ext t, .int kk u] (getItem (.bytes ext t) (.int kk u)) := by with_unfolding_all rfl) :
    wpAny (model prog w) A (subscriptTail value slice (.bytes ext t) (.int kk u)) Q E s := by
  subst e hc
  obtain ⟨hk, hx'⟩ := Array.getElem?_eq_some_iff.mp hx
  obtain ⟨l⟩ := ext
  have hk' : k < l.length := hk
  have hl : (l.getD (k : Int).toNat 0) = c := by
    rw [Int.toNat_natCast, List.getD_eq_getElem?_getD, List.getElem?_eq_getElem hk']
    exact hx'
  have hz' : l.length ≤ 2 ^ 30 := hz
  refine tail_any (typeIs_bytes s _ t) FB.slot_bytes_getitem.lookup (getItem_bytes (by omega) (by omega) (by omega) ?_) hs
  rw [hl]
  exact h
theorem up_toNat {d : Nat} (h : d < 36) : (up d).toUInt8.toNat = up d := by
  rw [Nat.toUInt8_eq, UInt8.toNat_ofNat']
  exact Nat.mod_eq_of_lt (up_lt h)
theorem up_cases {d : Nat} (h : d < 36) : (d < 26 ∧ up d = 65 + d) ∨ (26 ≤ d ∧ up d = 22 + d) := by
  unfold up; split
  · exact .inl ⟨by assumption, rfl⟩
  · exact .inr ⟨Nat.le_of_not_lt (by assumption), rfl⟩
theorem up_hi {d : Nat} (h : d < 36) (k : (65 : Int) ≤ ((up d : Nat) : Int)) : ((up d : Nat) : Int) - 65 = (d : Int) := by
  rcases up_cases h with ⟨a, e⟩ | ⟨a, e⟩ <;> rw [e] at k ⊢ <;> clear e <;> omega
theorem up_lo {d : Nat} (h : d < 36) (k : ¬ (65 : Int) ≤ ((up d : Nat) : Int)) : ((up d : Nat) : Int) - 22 = (d : Int) := by
  rcases up_cases h with ⟨a, e⟩ | ⟨a, e⟩ <;> rw [e] at k ⊢ <;> clear e <;> omega
theorem go_hi {d T : Nat} (h : d < 36) (k : (65 : Int) ≤ ((up d : Nat) : Int)) (q : ¬ ((up d : Nat) : Int) - 65 < (T : Int)) : ¬ d < T := fun x => q (by rw [up_hi h k]; exact Int.ofNat_lt.mpr x)
theorem go_lo {d T : Nat} (h : d < 36) (k : ¬ (65 : Int) ≤ ((up d : Nat) : Int)) (hT : T ≤ 26) : ¬ d < T := fun x => k (by
  have z := Nat.lt_of_lt_of_le x hT
  rcases up_cases h with ⟨a, e⟩ | ⟨a, e⟩
  · rw [e]; exact Int.ofNat_le.mpr (Nat.le_add_right 65 d)
  · exact absurd a (Nat.not_le.mpr z))
theorem ret_hi {d T : Nat} (h : d < 36) (k : (65 : Int) ≤ ((up d : Nat) : Int)) (q : ((up d : Nat) : Int) - 65 < (T : Int)) : d < T := Int.ofNat_lt.mp (by rw [up_hi h k] at q; exact q)
theorem castS (n : Nat) : (n : Int) + 1 = ((n + 1 : Nat) : Int) := (Int.natCast_add n 1).symm
local macro_rules | `(tactic| walk_at "subscriptTail") => `(tactic| (k_here; (with_reducible show wpAny _ _ (subscriptTail _ _ (Value.bytes _ _) (Value.int _ _)) _ _ _); (refine item_by (by assumption) (by assumption) ?e (by assumption) ?_); (case e => rfl)))
theorem assign2F {prog : Program} {w : World} {A : Around} {E : Value → Shared → Prop} {s : Shared} {env : Env} {h₀ : Heap} {L : Addr} {m : Str → Option Value} {news : List (Addr × Obj)} {xa xb : Str} {pa pb pos : Pos} {k n : Nat} {T : Addr} {v1 v2 : Value} {Q : Unit → Shared → Prop}
    (hh : A.handled = none) (F : Fr h₀ L s.heap m) (N : News h₀ L s.heap news) (hT : (T, ({ cls := .type "tuple", data := .seq #[v1, v2] n } : Obj)) ∈ news)
    (h : ∀ h' tk, Fr h₀ L h' (fun y => if y = xb then some v2 else if y = xa then some v1 else m y) → News h₀ L h' news → Q () { s with heap := h', toks := tk })
    (hL : env.locals = L := by rfl) (ha : env.kindOf xa = some .local := by rfl) (hb : env.kindOf xb = some .local := by rfl) (hp : PlainScope env := by rfl) :
    wpAny (model prog w) A (assign (.Tuple [.Name xa pa, .Name xb pb] k pos) env (.ref T)) Q E s := by
  subst hL
  refine assign2 hh ⟨_, (N _ hT).1, rfl, _, rfl⟩ F.ns ha hb hp fun h' tk hn hk => h h' tk ⟨hn, fun b o e => hk b o (Nat.ne_of_lt (Nat.lt_of_lt_of_le (Heap.lt_size e) F.above)) (F.keep b o e), F.above⟩ fun p hp' => ⟨hk _ _ (N p hp').2.1 (N p hp').1, (N p hp').2⟩
theorem tup_of {h : Heap} {a : Addr} {x y x' y' : Int} {t1 t2 : Tok} (ho : h.get? a = some { cls := .type "tuple", data := .seq #[.int x t1, .int y t2] }) (e1 : x = x') (e2 : y = y') : h.get? a = some { cls := .type "tuple", data := .seq #[.int x' t1, .int y' t2] } := by
  subst e1 e2; exact ho
theorem dgn_spec {prog : Program} {w : World} {A : Around} {s : Shared} {p : Program} {loose : List Str} {mean : ExcName → Option Value} {mg mb : Str → Option Value} {Q E : Value → Shared → Prop}
    (X : (hd.heap_1 w.params).In s.heap) (T : Top p loose mean mg mb s.heap) (hdp : A.depth + 1 < recursionLimit) (hh : A.handled = none)
    {ext : Array UInt8} {e b N : Nat} {u v t x : Tok} (hz : ext.size ≤ 2 ^ 30) (hN : N < 2 ^ 60) (hat : At ext e (ggi b 0 N))
    (ret : ∀ T t1 t2 h' tk', Kp s.heap h' → s.heap.get? T = none → h'.get? T = some { cls := .type "tuple", data := .seq #[.int ((e + (ggi b 0 N).length : Nat) : Int) t1, .int (N : Int) t2] } → Q (.ref T) { s with heap := h', toks := tk' }) :
    wpAny (model prog w) A (call (.ref 203) [.bytes ext t, .int e u, .int b v, .str (Str.ofString "strict") x]) Q E s := by
  k_dflt (refine' enter ([(Str.ofString "extended", .bytes ext t), (Str.ofString "extpos", .int e u), (Str.ofString "bias", .int b v), (Str.ofString "errors", .str (Str.ofString "strict") x)]) X T (Ent.self _) ?k1 ?k2 (Nat.lt_of_le_of_lt (Nat.le_add_right _ _) hdp) ?k3 ?k4 ?k5 ?_ ?c1 ?c2 ?c3 ?c4; (case k1 => k_is); (case k2 => k_is); (case k3 => exact BindsTo.of_eq rfl); (case k4 => exact locs rfl); (case k5 => (dsimp only [List.map]; decide)); (case c1 => exact rfl); (case c2 => exact rfl); (case c3 => exact rfl); (case c4 => decide))
  intro L' h' u' tk' F' N'
  (try dsimp only)
  dsimp only [kstB] at F'
  refine wpAny_mono (E := Fa) ?_ (fun _ _ x => x) (fun _ _ x => x.elim)
  refine execs_at 3 (End s.heap L' s (fun _ => []) (fun _ : Unit => [(Str.ofString "extended", .bytes ext), (Str.ofString "extpos", .int e), (Str.ofString "bias", .int b), (Str.ofString "errors", .str (Str.ofString "strict")), (Str.ofString "result", .int 0), (Str.ofString "w", .int 1), (Str.ofString "j", .int 0)]) (fun _ => True)) ?_ ?_
  · dsimp only [List.take]
    k_steps
    dsimp only
    exact End.intro () (by assumption) (by assumption) (fun _ h => nomatch h) (Known.bytes (by with_unfolding_all rfl) rfl (Known.int (by with_unfolding_all rfl) rfl (Known.int (by with_unfolding_all rfl) rfl (Known.str (by with_unfolding_all rfl) rfl (Known.int (by with_unfolding_all rfl) rfl (Known.int (by with_unfolding_all rfl) rfl (Known.int (by with_unfolding_all rfl) rfl Known.nil))))))) trivial
  · rintro _ ⟨_, h, tk, m, news, rfl, F, N1, -, hk, -⟩
    dsimp only [List.drop]
    refine wpAny_execs_cons (While_my (fun _ => []) (fun c : Nat × Nat × Nat × Nat => [(Str.ofString "extended", .bytes ext), (Str.ofString "extpos", .int (e + c.1 : Nat)), (Str.ofString "bias", .int b), (Str.ofString "errors", .str (Str.ofString "strict")), (Str.ofString "result", .int c.2.2.2), (Str.ofString "w", .int c.2.2.1), (Str.ofString "j", .int c.1)])
      (fun c => At ext (e + c.1) (ggi b c.1 c.2.1) ∧ c.1 + (ggi b c.1 c.2.1).length = (ggi b 0 N).length ∧ c.2.2.2 + c.2.2.1 * c.2.1 = N ∧ c.2.2.1 ≤ 36 * 2 ^ 60) (fun c => c.2.1) (0, N, 1, 0) F News.nil hk ⟨hat, by simp, by simp, by show 1 ≤ 36 * 2 ^ 60; decide⟩ ?_)
    rintro ⟨j, M, wt, res⟩ u τ h tk ⟨h1, h2, h3, h4⟩ F' N'
    dsimp only [nm, V0.mk] at F'
    dsimp only at h1 h2 h3 h4 ⊢
    have hT := Tn_bounds j b
    have hg : ∃ d r, ggi b j M = d :: r ∧ d < 36 ∧ (M < Tn j b → d = M ∧ r = []) ∧ (¬ M < Tn j b → d = Tn j b + (M - Tn j b) % (36 - Tn j b) ∧ r = ggi b (j + 1) ((M - Tn j b) / (36 - Tn j b))) := by
      rw [ggi]
      by_cases q : M < Tn j b
      · rw [if_pos q]; exact ⟨_, _, rfl, Nat.lt_of_lt_of_le q (Nat.le_trans hT.2 (by decide)), fun _ => ⟨rfl, rfl⟩, fun q' => absurd q q'⟩
      · rw [if_neg q]; exact ⟨_, _, rfl, fig (Nat.mod_lt _ (pos36 hT)), fun q' => absurd q' q, fun _ => ⟨rfl, rfl⟩⟩
    obtain ⟨d, r, hd, hd36, hd1, hd2⟩ := hg
    rw [hd] at h1 h2
    have hx := h1.head
    have hxn := up_toNat hd36
    have hup := up_cases hd36
    have hret : d < Tn j b → d = M ∧ r = [] := fun q => hd1 (by
      by_cases q' : M < Tn j b
      · exact q'
      · exact absurd (Nat.lt_of_le_of_lt (Nat.le_add_right _ _) ((hd2 q').1 ▸ q)) (Nat.lt_irrefl _))
    have hgo : ¬ d < Tn j b → d = Tn j b + (M - Tn j b) % (36 - Tn j b) ∧ r = ggi b (j + 1) ((M - Tn j b) / (36 - Tn j b)) ∧ Tn j b ≤ M := fun q => by
      by_cases q' : M < Tn j b
      · exact absurd ((hd1 q').1 ▸ q') q
      · exact ⟨(hd2 q').1, (hd2 q').2, Nat.le_of_not_lt q'⟩
    have hsum : ¬ d < Tn j b → res + d * wt + wt * (36 - Tn j b) * ((M - Tn j b) / (36 - Tn j b)) = N := fun q => by
      obtain ⟨q1, _, q2⟩ := hgo q
      have := Nat.mod_add_div (M - Tn j b) (36 - Tn j b)
      have hM : M = d + (36 - Tn j b) * ((M - Tn j b) / (36 - Tn j b)) := by rw [q1, Nat.add_assoc, this, Nat.add_sub_cancel' q2]
      rw [← h3, Nat.mul_assoc, Nat.add_assoc]
      congr 1
      conv => rhs; rw [hM]
      rw [Nat.mul_add, Nat.mul_comm d wt]
    have hwt : ¬ d < Tn j b → wt * (36 - Tn j b) ≤ 36 * 2 ^ 60 := fun q => by
      obtain ⟨q1, _, q2⟩ := hgo q
      have h5 : wt * 1 ≤ wt * M := Nat.mul_le_mul_left _ (Nat.le_trans hT.1 q2)
      rw [Nat.mul_one] at h5
      have h6 : wt ≤ 2 ^ 60 := Nat.le_trans h5 (Nat.le_trans (Nat.le_add_left _ res) (Nat.le_trans (Nat.le_of_eq h3) (Nat.le_of_lt hN)))
      exact Nat.le_trans (Nat.mul_le_mul h6 (Nat.sub_le 36 _)) (Nat.le_of_eq (Nat.mul_comm _ _))
    have fret : d < Tn j b → ∀ {h' : Heap} {T t1 t2 tk'} {x y : Int} {news}, News s.heap L' h' ((T, { cls := .type "tuple", data := .seq #[.int x t1, .int y t2] }) :: news) → Kp s.heap h' → x = ((e + j : Nat) : Int) + 1 → y = (res : Int) + (d : Int) * (wt : Int) → Q (.ref T) { s with heap := h', toks := tk' } := fun q h' T t1 t2 tk' x y news N k e1 e2 => by
      obtain ⟨rfl, rfl⟩ := hret q
      refine ret T t1 t2 h' tk' k (News.fresh N (.head _)) (tup_of (News.get N (.head _)) ?_ ?_)
      · rw [e1, ← h2]; exact castS (e + j)
      · rw [e2, ← h3, Nat.mul_comm]; push_cast; rfl
    have fgo : ¬ d < Tn j b → (At ext (e + (j + 1)) (ggi b (j + 1) ((M - Tn j b) / (36 - Tn j b))) ∧ (j + 1) + (ggi b (j + 1) ((M - Tn j b) / (36 - Tn j b))).length = (ggi b 0 N).length ∧
        (res + d * wt) + (wt * (36 - Tn j b)) * ((M - Tn j b) / (36 - Tn j b)) = N ∧ wt * (36 - Tn j b) ≤ 36 * 2 ^ 60) ∧ (M - Tn j b) / (36 - Tn j b) < M := fun q => by
      obtain ⟨q1, q2, q3⟩ := hgo q
      refine ⟨⟨?_, ?_, hsum q, hwt q⟩, Nat.lt_of_le_of_lt (Nat.div_le_self _ _) (Nat.sub_lt (Nat.lt_of_lt_of_le hT.1 q3) hT.1)⟩
      · have := h1.tail; rw [q2] at this; exact this
      · rw [← q2, ← h2, List.length_cons]; exact add1_eq rfl
    clear hret hgo hsum hwt hd1 hd2 h2
    k_steps
    all_goals (refine T_spec (Frag.In.keeps (by assumption) (Fr.keep (by assumption))) (Top.keeps (by assumption) (Fr.keep (by assumption))) (dep (m := 1) hdp (by decide)) (by assumption) ?_; intro n' t' h' tk' hn' k'; subst hn'; have F' := Fr.kp (by assumption) k'; have N' := News.kp (by assumption) k'; clear k')
    all_goals k_steps
    all_goals dsimp only
    · exact fret (ret_hi hd36 (by assumption) (by assumption)) (by assumption) (Fr.keep (by assumption)) rfl (by rw [up_hi hd36 (by assumption)])
    · have q : ¬ d < Tn j b := go_hi hd36 (by assumption) (by assumption)
      refine End.intro (j + 1, (M - Tn j b) / (36 - Tn j b), wt * (36 - Tn j b), res + d * wt) (by assumption) (by assumption) (fun _ h => nomatch h)
        (Known.bytes (by with_unfolding_all rfl) rfl (Known.int (by with_unfolding_all rfl) ?_ (Known.int (by with_unfolding_all rfl) rfl (Known.str (by with_unfolding_all rfl) rfl (Known.int (by with_unfolding_all rfl) ?_ (Known.int (by with_unfolding_all rfl) ?_ (Known.int (by with_unfolding_all rfl) ?_ Known.nil))))))) (fgo q)
      · exact castS (e + j)
      · rw [up_hi hd36 (by assumption)]; push_cast; rfl
      · rw [sub36 hT]; push_cast; rfl
      · rfl
    · have q : ¬ d < Tn j b := go_lo hd36 (by assumption) hT.2
      refine End.intro (j + 1, (M - Tn j b) / (36 - Tn j b), wt * (36 - Tn j b), res + d * wt) (by assumption) (by assumption) (fun _ h => nomatch h)
        (Known.bytes (by with_unfolding_all rfl) rfl (Known.int (by with_unfolding_all rfl) ?_ (Known.int (by with_unfolding_all rfl) rfl (Known.str (by with_unfolding_all rfl) rfl (Known.int (by with_unfolding_all rfl) ?_ (Known.int (by with_unfolding_all rfl) ?_ (Known.int (by with_unfolding_all rfl) ?_ Known.nil))))))) (fgo q)
      · exact castS (e + j)
      · rw [up_lo hd36 (by assumption)]; push_cast; rfl
      · rw [sub36 hT]; push_cast; rfl
      · rfl
end Mine
end
section
local macro_rules | `(tactic| walk_at "call ref") => `(tactic| (refine Mine.held ?_))
local macro_rules | `(tactic| walk_at "assign") => `(tactic| (k_here; (with_reducible show wpAny _ _ (assign (Expr.Tuple [Expr.Name _ _, Expr.Name _ _] _ _) _ (Value.ref _)) _ _ _); (refine Mine.assign2F (by assumption) (by assumption) (by assumption) (by k_mem) ?_); intro h' tk' F' N'))
section
theorem Mine.anewGp : True := by w_top off; trivial
namespace Mine
local macro_rules | `(tactic| walk_at "call builtin:len") => `(tactic| (refine held ?_))
local macro_rules | `(tactic| walk_at "subscriptTail") => `(tactic| (refine held ?_))
open LCg (NsObj lst)
section
variable {prog : Program} {w : World} {A : Around} {E : Value → Shared → Prop} {s : Shared} {h₀ : Heap} {L a : Addr} {m : Str → Option Value} {cn : Str} {cs : Scope} {ccd : Value} {cl : List (Str × Addr)} {news : List (Addr × Obj)} {g : Obj → List (Addr × Obj)} {c : Addr} {o : Obj} {v₀ : Option Value}
/-- x, y = a pair, where x is captured -/
theorem assign_cl {xa xb : Str} {pa pb pos : Pos} {k : Nat} {T : Addr} {v1 v2 : Value} {Q : Unit → Shared → Prop} (hh : A.handled = none) (F : Fr h₀ L s.heap m) (N : News h₀ L s.heap news) (ht : s.heap.IsTuple T #[v1, v2])
    (hc : cl.lookup xa = some c) (U : UpdF c o news g) (hd : o.data = .cell v₀) (hk : cs.kind = .function) (ha : (envX cn cs L a ccd cl).kindOf xa = some .cell) (hb : (envX cn cs L a ccd cl).kindOf xb = some .local)
    (h : ∀ h' o' tk, Fr h₀ L h' (fun y => if y = xb then some v2 else m y) → News h₀ L h' (g o') → o'.data = .cell (some v1) → Q () { s with heap := h', toks := tk }) :
    wpAny (model prog w) A (assign (.Tuple [.Name xa pa, .Name xb pb] k pos) (envX cn cs L a ccd cl) (.ref T)) Q E s := by
  refine wpAny_assign_Tuple hh ht rfl rfl fun h₃ hx₃ => ?_
  have old : ∀ b o, s.heap.get? b = some o → h₃.get? b = some o := fun b o e => hx₃ b o (Nat.ne_of_lt (Heap.lt_size e)) e
  show wpAny _ A (do holding [v2] (assign (.Name xa pa) (envX cn cs L a ccd cl) v1); do holding [] (assign (.Name xb pb) (envX cn cs L a ccd cl) v2); pure ()) _ _ _
  refine wpAny_bind (wpAny_holding (wpAny_assign_Name (storeX_C (F.kept old) (N.grown old) hc U hd (fun h₄ o' F4 N4 hd4 => ?_) hk ha)))
  exact wpAny_bind (wpAny_holding (wpAny_assign_Name (storeX_L F4 N4 (fun h₅ F5 N5 => wpAny_pure (h h₅ o' _ F5 N5 hd4)) hk hb)))
/-- many new objects -/
theorem News.many {h h' : Heap} {ts : List (Addr × Obj)} (F : Fr h₀ L h m) (N : News h₀ L h' news) (ht : ∀ p ∈ ts, h.get? p.1 = none ∧ h'.get? p.1 = some p.2) : News h₀ L h' (news ++ ts) := fun p hp => by
  rcases List.mem_append.mp hp with hp | hp
  · exact N p hp
  · obtain ⟨h1, h2⟩ := ht p hp
    refine ⟨h2, fun q => ?_, ?_⟩
    · obtain ⟨o', es, n, ho, r⟩ := F.ns
      rw [q, ho] at h1; cases h1
    · cases hx : h₀.get? p.1 with
      | none => rfl
      | some o' => rw [F.keep _ o' hx] at h1; cases h1
end
section
variable {prog : Program} {w : World} {A : Around} {E : Value → Shared → Prop} {s : Shared} {env : Env} {h₀ : Heap} {L : Addr} {σ : Type} {Q : Flow → Shared → Prop}
/-- a loop over a range, with further objects that stay -/
theorem rangeT {x : Str} {px : Pos} {body : List Stmt} {r : Addr} {n : Nat} {t1 t2 t3 : Tok} {m₀ : Str → Option Value} (ts : List (Addr × Obj)) (hh : A.handled = none) (hx : env.kindOf x = some .local) (hsc : PlainScope env) (hr : IsRange s.heap r 0 n 1 t1 t2 t3) (hn : n < 2 ^ 60)
    (Led : σ → List (Addr × Obj)) (ps : σ → List (Str × V0)) (P : Nat → σ → Prop) (c₀ : σ) (hL : env.locals = L) (hoff : ∀ c, OwnOff ts ((Led c).map (·.1)))
    (F : Fr h₀ L s.heap m₀) (N : News h₀ L s.heap (Led c₀ ++ ts)) (hk : Known m₀ (ps c₀)) (hp : P 0 c₀)
    (turn : ∀ i (c : σ) t own u τ h tk, i < n → P i c → OwnOff own ((Led c).map (·.1)) → (∀ p ∈ ts, p ∈ own) → Fr h₀ L h (fun y => if y = x then some (.int (i : Int) t) else nm u τ (ps c) y) → News h₀ L h (Led c ++ own) →
      wpAny (model prog w) A (execs body env) (Turn h₀ L s (fun c' => Led c' ++ own) ps (fun c' => P (i + 1) c' ∧ (Led c').map (·.1) = (Led c).map (·.1)) Q) Fa { s with heap := h, toks := tk })
    (done : ∀ (c : σ) m τ h tk, P n c → Fr h₀ L h (nm m τ (ps c)) → News h₀ L h (Led c ++ ts) → Q .next { s with heap := h, toks := tk }) :
    IterA (model prog w) A (.Name x px) body env Q E (.ref r) s := by
  refine rangeA hh hx hsc hr hn (fun c => Led c ++ ts) ps P c₀ hL F N hk hp (fun i c t own u τ h tk hi hP off F' N' => ?_) done
  refine wpAny_mono (turn i c t (ts ++ own) u τ h tk hi hP (fun p hp b hb => ?_) (fun p hp => List.mem_append_left _ hp) F' (by rw [← List.append_assoc]; exact N')) (fun fl s₂ hT => ?_) fun _ _ x => x
  · rcases List.mem_append.mp hp with hp | hp
    · exact hoff c p hp b hb
    · exact off p hp b (by rw [List.map_append]; exact List.mem_append_left _ hb)
  · have go : End h₀ L s (fun c' => Led c' ++ (ts ++ own)) ps (fun c' => P (i + 1) c' ∧ (Led c').map (·.1) = (Led c).map (·.1)) s₂ → End h₀ L s (fun c' => Led c' ++ ts ++ own) ps (fun c' => P (i + 1) c' ∧ OwnOff own ((Led c' ++ ts).map (·.1))) s₂ := by
      rintro ⟨c', h', tk', m', news', e, F2, N2, hl, hk2, hp2, he⟩
      exact ⟨c', h', tk', m', news', e, F2, N2, by show ∀ p ∈ Led c' ++ ts ++ own, _; rw [List.append_assoc]; exact hl, hk2, hp2, by rw [List.map_append, he, ← List.map_append]; exact off⟩
    unfold Turn at hT ⊢
    cases fl <;> first | exact hT | exact go hT
end
theorem len_made {prog : Program} {w : World} {A : Around} {E : Value → Shared → Prop} {s : Shared} {l : Addr} {vs : List Value} {n k : Nat} {Q : Value → Shared → Prop} (ho : s.heap.get? l = some (seqObj "list" vs.toArray n)) (hk : vs.length = k) (hz : k ≤ 2 ^ 40)
    (h : Q (.int (k : Int) (s.toks + 1)) { s with toks := s.toks + 1 + 1 }) : wpAny (model prog w) A (call (.builtin "len") [.ref l]) Q E s := by
  subst hk
  exact Calls.call_len_list ⟨_, ho, rfl, _, rfl⟩ (by simp only [List.size_toArray]; omega) (by simpa using h)
/-- how many of the first p signs are not beyond c -/
noncomputable def ahead (cs : List Nat) (c p : Nat) : Nat := ((List.range p).filter fun i => cs.getD i 0 ≤ c).length
noncomputable def gapsFrom (cs : List Nat) (bare : Int) : Nat → Nat → Nat → List (Nat × Nat) → List Int
  | _, _, _, [] => []
  | k, code, behind, (c, p) :: r => (((c : Int) - code) * (bare + k + 1) + ahead cs c p - behind) :: gapsFrom cs bare (k + 1) c (ahead cs c p + 1) r
/-- values that are numbers -/
noncomputable def NumsAre (vs : List Value) (zs : List Int) : Prop := vs.length = zs.length ∧ ∀ (i : Nat) (z : Int), zs[i]? = some z → ∃ t : Tok, vs[i]? = some (Value.int z t)
theorem NumsAre.nil : NumsAre [] [] := ⟨rfl, fun i c h => by simp at h⟩
theorem NumsAre.snoc {vs : List Value} {zs : List Int} {z : Int} {t : Tok} (h : NumsAre vs zs) : NumsAre (vs ++ [.int z t]) (zs ++ [z]) := by
  refine ⟨by simp [h.1], fun i d hd => ?_⟩
  by_cases hi : i < zs.length
  · rw [List.getElem?_append_left hi] at hd
    obtain ⟨u, hu⟩ := h.2 i d hd
    exact ⟨u, by rw [List.getElem?_append_left (by rw [h.1]; exact hi)]; exact hu⟩
  · have e : i = zs.length := by
      have := (List.getElem?_eq_some_iff.mp hd).1
      simp at this; omega
    subst e
    simp at hd
    subst hd
    exact ⟨t, by rw [← h.1]; simp⟩
theorem allLt_mem {d : Addr} : ∀ {l : List (Addr × Obj)}, AllLt d l → ∀ p ∈ l, @LT.lt Nat _ p.1 d
  | [], _, _, h => nomatch h
  | q :: r, x, p, h => by
    rcases List.mem_cons.mp h with rfl | h
    · exact x.1
    · exact allLt_mem x.2 p h
local macro_rules | `(tactic| walk_at "exec For Name Call cons nil") => `(tactic| (k_here; k_dflt (refine wpAny_For_my ?_)))
theorem gaps_spec {prog : Program} {w : World} {A : Around} {s : Shared} {p : Program} {loose : List Str} {mean : ExcName → Option Value} {mg mb : Str → Option Value} {Q E : Value → Shared → Prop}
    (X : (hd.heap_1 w.params).In s.heap) (T : Top p loose mean mg mb s.heap) (hdp : A.depth + 2 < recursionLimit) (hh : A.handled = none)
    {v : Value} {cs : List Nat} (hv : Sg s.heap v cs) (hn : cs.length ≤ 100000) (h64 : (marks cs cs.length).length < 64)
    (ret : ∀ D vs ps n h' tk', Kp s.heap h' → s.heap.get? D = none → h'.get? D = some (seqObj "list" vs.toArray n) → ps.Perm (marks cs cs.length) → Rises ps → NumsAre vs (gapsFrom cs ((cs.length : Int) - ps.length) 0 128 0 ps) → Q (.ref D) { s with heap := h', toks := tk' }) :
    wpAny (model prog w) A (call (.ref 246) [v]) Q E s := by
  k_dflt (refine' enterX [(Str.ofString "signs", v)] X T (Ent.self _) ?k1 ?k2 (Nat.lt_of_le_of_lt (Nat.le_add_right _ _) hdp) ?k3 ?k4 ?k5 ?_ ?c1 ?c2 ?c3; (case k1 => k_is); (case k2 => k_is); (case k3 => exact BindsTo.of_eq rfl); (case k4 => rfl); (case k5 => decide); (case c1 => exact rfl); (case c2 => exact rfl); (case c3 => exact rfl))
  intro L' h' tk' cells' F' N' Y'
  refine wpAny_mono (E := Fa) ?_ (fun _ _ x => x) (fun _ _ x => x.elim)
  obtain ⟨oN, oS, rfl, hoN, hoS⟩ := CellsAre.two Y'
  have hoS' : oS.data = .cell (some v) := hoS
  have hoN' : oN.data = .cell none := hoN
  have F2 : Fr s.heap L' h' (fun _ => none) := F'
  clear F' hoS hoN Y'
  dsimp only [List.append_nil, List.cons_append] at N'
  k_steps
  refine order_spec (A := A.deeper _) (Frag.In.keeps X F2.keep) (T.keeps F2.keep) (dep (m := 2) hdp (by decide)) hh (hv.kp F2.keep) hn h64 fun D vs ps ts n h3 tk3 k3 hD hDo hts hps hperm hrise => ?_
  have F4 := Fr.kp F2 k3
  have N4 := News.many F2 (News.new F2 N' hD hDo k3) fun p hp => ⟨(hts p hp).1, (hts p hp).2.1⟩
  have hoffG : ∀ p ∈ ts, p.1 ≠ L' + 1 + 1 ∧ p.1 ≠ L' + 1 := fun p hp => by
    have h1 := (hts p hp).1
    have h2 : Heap.get? h' (L' + 1 + 1) = some oN := News.get N' (.head _)
    have h4 : Heap.get? h' (L' + 1) = some oS := News.get N' (.tail _ (.head _))
    exact ⟨fun e => by rw [e] at h1; exact absurd (h1.symm.trans h2) (by simp), fun e => by rw [e] at h1; exact absurd (h1.symm.trans h4) (by simp)⟩
  have hD2 : @Ne Nat D (L' + 1 + 1) := fun e => absurd ((show Heap.get? h' (L' + 1 + 1) = none from e ▸ hD).symm.trans (News.get N' (.head _))) (by simp)
  have hD1 : @Ne Nat D (L' + 1) := fun e => absurd ((show Heap.get? h' (L' + 1) = none from e ▸ hD).symm.trans (News.get N' (.tail _ (.head _)))) (by simp)
  dsimp only [List.append_nil, List.cons_append, List.nil_append] at N4
  k_steps
  refine len_sg (hv.kp (Fr.keep (by assumption))) hn ?_
  have hvl : vs.length = ps.length := (hps h3 fun p hp => (hts p hp).2.1).1
  have hpl : ps.length < 64 := by rw [hperm.length_eq]; exact h64
  k_steps
  refine len_made (News.get (by assumption) (.head _)) hvl (by omega) ?_
  k_steps
  refine len_made (News.get (by assumption) (.tail _ (.tail _ (.head _)))) hvl (by omega) ?_
  k_steps
  rename_i h5 tk5 t1 t2 t3 hR F5 N5 k5
  rename D < _ ∧ _ => lG
  obtain ⟨G, m5, F6, K6, N6, lG⟩ : ∃ (G : Addr) (m : Str → Option Value), Fr s.heap L' h5 m ∧ Known m ([(Str.ofString "order", .val (.ref D)), (Str.ofString "bare", .int ((cs.length : Int) - ps.length)), (Str.ofString "gaps", .val (.ref G)), (Str.ofString "code", .int ((128 : Nat) : Int)), (Str.ofString "behind", .int ((0 : Nat) : Int))]) ∧ News s.heap L' h5 ((G, W.listOf #[] 0) :: (D, seqObj "list" vs.toArray n) :: (L' + 1 + 1, oN) :: (L' + 1, oS) :: ts) ∧ (@LT.lt Nat _ D G ∧ @LT.lt Nat _ (L' + 1 + 1) G ∧ @LT.lt Nat _ (L' + 1) G ∧ AllLt G ts) :=
    ⟨_, _, F5, Known.val (by with_unfolding_all rfl) rfl (Known.int (by with_unfolding_all rfl) rfl (Known.val (by with_unfolding_all rfl) rfl (Known.int (by with_unfolding_all rfl) rfl (Known.int (by with_unfolding_all rfl) rfl Known.nil)))), fun p hp => N5 p (.tail _ hp), lG⟩
  refine rangeT (L := L') ts hh (by rfl) (by rfl) hR (by omega) (fun c : Obj × List Value × List Int × Nat × Nat × Nat => [(G, W.listOf c.2.1.toArray c.2.2.2.2.2), (D, seqObj "list" vs.toArray n), (L' + 1 + 1, c.1), (L' + 1, oS)])
    (fun c => [(Str.ofString "order", .val (.ref D)), (Str.ofString "bare", .int ((cs.length : Int) - ps.length)), (Str.ofString "gaps", .val (.ref G)), (Str.ofString "code", .int (c.2.2.2.1 : Int)), (Str.ofString "behind", .int (c.2.2.2.2.1 : Int))])
    (fun k c => (∃ v₀, c.1.data = .cell v₀) ∧ NumsAre c.2.1 c.2.2.1 ∧ c.2.1.length = k ∧ c.2.2.1 ++ gapsFrom cs ((cs.length : Int) - ps.length) k c.2.2.2.1 c.2.2.2.2.1 (ps.drop k) = gapsFrom cs ((cs.length : Int) - ps.length) 0 128 0 ps)
    (oN, [], [], 128, 0, 0) rfl ?off F6 N6 K6 ?hp ?turn ?done
  case off =>
    intro c p hp b hb
    have hb' : b = G ∨ b = D ∨ b = L' + 1 + 1 ∨ b = L' + 1 := by simpa using hb
    have hl : @LT.lt Nat _ p.1 G := (allLt_mem lG.2.2.2) p hp
    rcases hb' with rfl | rfl | rfl | rfl
    · exact Nat.ne_of_lt hl
    · exact (hts p hp).2.2
    · exact (hoffG p hp).1
    · exact (hoffG p hp).2
  case hp => exact ⟨⟨_, hoN'⟩, NumsAre.nil, rfl, by simp⟩
  case done =>
    rintro ⟨o1, gv, gz, code, behind, e⟩ m τ h tk ⟨-, hv1, hl1, he1⟩ F' N'
    dsimp only [nm, V0.mk] at F'
    dsimp only at N' hv1 hl1 he1 ⊢
    rw [List.drop_length, gapsFrom, List.append_nil] at he1
    k_steps
    rw [he1] at hv1
    exact ret G gv ps e _ _ (Fr.keep (by assumption)) (News.fresh N' (.head _)) (News.get N' (.head _)) hperm hrise hv1
  case turn =>
    rintro i ⟨o1, gv, gz, code, behind, e⟩ t own u τ h tk hi ⟨⟨v₀, hv0⟩, hv1, hl1, he1⟩ off hown F' N'
    dsimp only [nm, V0.mk] at F'
    dsimp only at N' hv1 hl1 he1 hv0 off ⊢
    dsimp only [List.cons_append, List.nil_append, List.map_cons, List.map_nil] at N' off
    have hpi : ps[i]? = some ps[i] := by simp [hi]
    obtain ⟨T1, ta, tb, hvi, hT1⟩ := (hps h fun p hp => News.get N' (.tail _ (.tail _ (.tail _ (.tail _ (hown p hp)))))).2 i ps[i].1 ps[i].2 hpi
    k_steps
    refine item_list ⟨_, News.get N' (.tail _ (.head _)), rfl, _, rfl⟩ (by omega) (by omega) (x := .ref T1) (by simpa using hvi) ?_
    k_steps
    k_dflt (refine' assign_cl (c := L' + 1 + 1) (o := o1) hh F' N' hT1 ?a ?U hv0 ?b ?d ?e ?_; (case a => rfl); (case b => rfl); (case d => rfl); (case e => rfl); (case U => k_updF))
    intro h7 o7 tk7 F7 N7 hd7
    (try dsimp only at N7)
    clear F' N' hv0
    k_steps
    rename_i h8 tk8 t4 t5 t6 hR8 F8 N8 k8
    have hmem : ps[i] ∈ marks cs cs.length := hperm.mem_iff.mp (List.getElem_mem hi)
    have hpl2 : ps[i].2 < cs.length := by
      obtain ⟨x, hx, hxe⟩ := List.mem_map.mp hmem
      rw [← hxe]
      exact List.mem_range.mp (List.mem_filter.mp hx).1
    refine compRange (n := ps[i].2) hh hR8 (Nat.le_trans (by omega) (show 100000 ≤ sizeLine by decide)) (by decide) rfl (by rfl) F8 N8 (fun _ => []) (fun _ _ h => nomatch h) (fun c : List Value => c) (fun j c => c.length = ahead cs ps[i].1 j ∧ c.length ≤ j) [] rfl rfl ⟨rfl, Nat.le_refl _⟩ (fun _ _ h => h.2) ?_ ?_
    · rintro j c t9 hj ⟨hc1, hc2⟩ C oC D9 I oI m₂ h9 tk9 hoC hm F9 N9
      have N10 : News s.heap L' h9 ((L' + 1, oS) :: (L' + 1 + 1, o7) :: (C, oC) :: (D9, lst c) :: (I, oI) :: (G, W.listOf gv.toArray e) :: (D, seqObj "list" vs.toArray n) :: own) := fun p hp => N9 p (by simp only [List.mem_append, List.mem_cons, List.not_mem_nil, false_or] at hp ⊢; rcases hp with h | h | h | h | h | h | h | h <;> simp only [h, true_or, or_true])
      clear N9 N8 k8 hR8
      have hj' : j < cs.length := by omega
      have hkj : cs[j]? = some cs[j] := by simp [hj']
      have hgd : cs.getD j 0 = cs[j] := by simp [hj']
      have hah : ahead cs ps[i].1 (j + 1) = ahead cs ps[i].1 j + if cs[j] ≤ ps[i].1 then 1 else 0 := by
        unfold ahead
        rw [List.range_succ, List.filter_append, List.length_append]
        congr 1
        by_cases h : cs[j] ≤ ps[i].1 <;> simp [h, hkj]
      refine wpAny_tests_one ?_
      k_steps
      refine item_sg (hv.kp (Fr.keep (by assumption))) hn hkj rfl fun t10 tk10 => ?_
      k_steps
      unfold CTurn
      by_cases hle : cs[j] ≤ ps[i].1
      · rw [if_pos (decide_eq_true (by omega))]
        k_steps
        refine CEnd.intro (c ++ [.int (j : Int) t9]) (by assumption) N10 (fun p hp => ?_) ⟨rfl, ?_, by simp; omega⟩
        · simp only [List.mem_append, List.mem_cons, List.not_mem_nil, false_or, or_false] at hp ⊢
          rcases hp with (h | h | h) | h | h | h | h | h <;> simp only [h, true_or, or_true]
        · rw [hah, if_pos hle, List.length_append, hc1]; rfl
      · rw [if_neg (by rw [decide_eq_false (by omega)]; exact Bool.false_ne_true)]
        refine CEnd.intro c (by assumption) N10 (fun p hp => ?_) ⟨rfl, ?_, by omega⟩
        · simp only [List.mem_append, List.mem_cons, List.not_mem_nil, false_or, or_false] at hp ⊢
          rcases hp with (h | h | h) | h | h | h | h | h <;> simp only [h, true_or, or_true]
        · rw [hah, if_neg hle, hc1]; rfl
    · rintro c D9 h9 tk9 ⟨hc1, hc2⟩ F9 N9
      dsimp only at N9 ⊢
      k_steps
      refine len_made (News.get N9 (.head _)) hc1 (by omega) ?_
      have N10 : News s.heap L' h9 ((G, W.listOf gv.toArray e) :: (D, seqObj "list" vs.toArray n) :: (L' + 1 + 1, o7) :: (L' + 1, oS) :: own) := fun p hp => N9 p (.tail _ hp)
      clear N9 N8 k8 hR8
      k_steps
      rename Fr _ _ _ _ => F10
      rename News _ _ _ _ => N11
      refine unpackItemsN_ F10 N11 ⟨_, News.get N11 (.head _), rfl, _, rfl⟩ hh (by with_unfolding_all rfl) fun h12 F12 N12 => ?_
      k_steps
      dsimp only
      have hdr : ps.drop i = ps[i] :: ps.drop (i + 1) := by rw [List.drop_eq_getElem_cons hi]
      rename News _ _ _ _ => N14
      simp only [List.push_toArray] at N14
      obtain ⟨tt, N15⟩ : ∃ tt : Tok, News s.heap L' _ ((G, W.listOf (gv ++ [Value.int (((ps[i].1 : Int) - code) * ((cs.length : Int) - ps.length + i + 1) + ahead cs ps[i].1 ps[i].2 - behind) tt]).toArray (e + 1)) :: (D, seqObj "list" vs.toArray n) :: (L' + 1 + 1, o7) :: (L' + 1, oS) :: own) := ⟨_, fun p hp => N14 p (List.Mem.tail _ hp)⟩
      refine' End.intro (o7, gv ++ [Value.int (((ps[i].1 : Int) - code) * ((cs.length : Int) - ps.length + i + 1) + ahead cs ps[i].1 ps[i].2 - behind) tt], gz ++ [((ps[i].1 : Int) - code) * ((cs.length : Int) - ps.length + i + 1) + ahead cs ps[i].1 ps[i].2 - behind], ps[i].1, ahead cs ps[i].1 ps[i].2 + 1, e + 1) ?F N15 ?hl ?hk ?hp
      case hl => exact fun p hp => hp
      case F => assumption
      case hk => exact Known.val (by with_unfolding_all rfl) rfl (Known.int (by with_unfolding_all rfl) rfl (Known.val (by with_unfolding_all rfl) rfl (Known.int (by with_unfolding_all rfl) rfl (Known.int (by with_unfolding_all rfl) rfl Known.nil))))
      case hp =>
        refine ⟨⟨⟨_, hd7⟩, hv1.snoc, by simp [hl1], ?_⟩, rfl⟩
        rw [hdr] at he1
        show gz ++ [_] ++ _ = _
        rw [← he1, List.append_assoc]
        rfl
end Mine
end
section
theorem Mine.anewDi : True := by w_top off; trivial
namespace Mine
local macro_rules | `(tactic| walk_at "binaryOp Add str str") => `(tactic| (refine held ?_))
local macro_rules | `(tactic| walk_at "call builtin:len") => `(tactic| (k_here; (with_reducible show wpAny _ _ (call (Value.builtin "len") [Value.str (st _) _]) _ _ _); (refine len_st ?z ?_); (case z => first | assumption | omega)))
/-- the insertions that a row of numbers tells -/
noncomputable def insL : List Nat → Nat → Nat → List Nat → List Nat
  | base, _, _, [] => base
  | base, char, q, d :: r => insL (base.take ((q + d) % (base.length + 1)) ++ (char + (q + d) / (base.length + 1)) :: base.drop ((q + d) % (base.length + 1))) (char + (q + d) / (base.length + 1)) ((q + d) % (base.length + 1) + 1) r
/-- they are code points -/
noncomputable def InsOk : List Nat → Nat → Nat → List Nat → Prop
  | _, _, _, [] => True
  | base, char, q, d :: r => char + (q + d) / (base.length + 1) ≤ 1114111 ∧ InsOk (base.take ((q + d) % (base.length + 1)) ++ (char + (q + d) / (base.length + 1)) :: base.drop ((q + d) % (base.length + 1))) (char + (q + d) / (base.length + 1)) ((q + d) % (base.length + 1) + 1) r
theorem ggi_ne (b j N : Nat) : 1 ≤ (ggi b j N).length := ggi_one b j N
theorem At.left {ext : Array UInt8} {e : Nat} {a b : List Nat} (h : At ext e (a ++ b)) : At ext e a := fun i d hd => h i d (by
  have := (List.getElem?_eq_some_iff.mp hd).1
  rw [List.getElem?_append_left this]; exact hd)
theorem At.right {ext : Array UInt8} {e : Nat} {a b : List Nat} (h : At ext e (a ++ b)) : At ext (e + a.length) b := fun i d hd => by
  have := h (a.length + i) d (by rw [List.getElem?_append_right (Nat.le_add_right _ _), Nat.add_sub_cancel_left]; exact hd)
  rwa [← Nat.add_assoc] at this
theorem len_ins {α : Type} {l : List α} {m : Nat} {c : α} (h : m ≤ l.length) : (l.take m ++ [c] ++ l.drop m).length = l.length + 1 := by
  rw [List.length_append, List.length_append, List.length_take_of_le h, List.length_drop, Nat.add_right_comm, Nat.add_sub_cancel' h]; rfl
structure IsSt where
  rem : List Nat
  base : List Nat
  char : Nat
  q : Nat
  bias : Nat
  ep : Nat
  k : Nat
theorem is_spec {prog : Program} {w : World} {A : Around} {s : Shared} {p : Program} {loose : List Str} {mean : ExcName → Option Value} {mg mb : Str → Option Value} {Q E : Value → Shared → Prop}
    (X : (hd.heap_1 w.params).In s.heap) (T : Top p loose mean mg mb s.heap) (hdp : A.depth + 2 < recursionLimit) (hh : A.handled = none)
    {ext : Array UInt8} {base ds : List Nat} {u v t : Tok} (hz : ext.size ≤ 2 ^ 30) (hds : ∀ d ∈ ds, d < 2 ^ 60) (hn : ds.length ≤ 1000) (hb : base.length ≤ 10000) (hat : At ext 0 (giL base.length 0 72 ds)) (hsz : ext.size = (giL base.length 0 72 ds).length) (hok : InsOk base 128 0 ds)
    (ret : ∀ t h' tk', Kp s.heap h' → Q (.str (st (insL base 128 0 ds)) t) { s with heap := h', toks := tk' }) :
    wpAny (model prog w) A (call (.ref 210) [.str (st base) u, .bytes ext t, .str (Str.ofString "strict") v]) Q E s := by
  k_dflt (refine' enter ([(Str.ofString "base", .str (st base) u), (Str.ofString "extended", .bytes ext t), (Str.ofString "errors", .str (Str.ofString "strict") v)]) X T (Ent.self _) ?k1 ?k2 (Nat.lt_of_le_of_lt (Nat.le_add_right _ _) hdp) ?k3 ?k4 ?k5 ?_ ?c1 ?c2 ?c3 ?c4; (case k1 => k_is); (case k2 => k_is); (case k3 => exact BindsTo.of_eq rfl); (case k4 => exact locs rfl); (case k5 => (dsimp only [List.map]; decide)); (case c1 => exact rfl); (case c2 => exact rfl); (case c3 => exact rfl); (case c4 => decide))
  intro L' h' u' tk' F' N'
  (try dsimp only)
  dsimp only [kstB] at F'
  refine wpAny_mono (E := Fa) ?_ (fun _ _ x => x) (fun _ _ x => x.elim)
  refine execs_at 4 (End s.heap L' s (fun _ => []) (fun _ : Unit => [(Str.ofString "base", .str (st base)), (Str.ofString "extended", .bytes ext), (Str.ofString "errors", .str (Str.ofString "strict")), (Str.ofString "char", .int ((128 : Nat) : Int)), (Str.ofString "pos", .int (((0 : Nat) : Int) - 1)), (Str.ofString "bias", .int ((72 : Nat) : Int)), (Str.ofString "extpos", .int ((0 : Nat) : Int))]) (fun _ => True)) ?_ ?_
  · dsimp only [List.take]
    k_steps
    dsimp only
    exact End.intro () (by assumption) (by assumption) (fun _ h => nomatch h) (Known.str (by with_unfolding_all rfl) rfl (Known.bytes (by with_unfolding_all rfl) rfl (Known.str (by with_unfolding_all rfl) rfl (Known.int (by with_unfolding_all rfl) rfl (Known.int (by with_unfolding_all rfl) (by decide) (Known.int (by with_unfolding_all rfl) rfl (Known.int (by with_unfolding_all rfl) rfl Known.nil))))))) trivial
  · rintro _ ⟨_, h, tk, m, news, rfl, F, N1, -, hk, -⟩
    dsimp only [List.drop]
    refine wpAny_execs_cons (While_my (fun _ => []) (fun c : IsSt => [(Str.ofString "base", .str (st c.base)), (Str.ofString "extended", .bytes ext), (Str.ofString "errors", .str (Str.ofString "strict")), (Str.ofString "char", .int c.char), (Str.ofString "pos", .int (c.q - 1)), (Str.ofString "bias", .int c.bias), (Str.ofString "extpos", .int c.ep)])
      (fun c => insL c.base c.char c.q c.rem = insL base 128 0 ds ∧ InsOk c.base c.char c.q c.rem ∧ At ext c.ep (giL base.length c.k c.bias c.rem) ∧ ext.size = c.ep + (giL base.length c.k c.bias c.rem).length ∧ c.base.length = base.length + c.k ∧ c.k + c.rem.length = ds.length ∧
        (c.ep = 0 ↔ c.k = 0) ∧ (∀ d ∈ c.rem, d < 2 ^ 60) ∧ c.char ≤ 1114111 ∧ c.q ≤ 20000) (fun c => c.rem.length) ⟨ds, base, 128, 0, 72, 0, 0⟩ F News.nil hk ⟨rfl, hok, hat, by simpa using hsz, rfl, by simp, by simp, hds, by show 128 ≤ 1114111; decide, by show 0 ≤ 20000; decide⟩ ?_)
    rintro ⟨rem, bs, char, q, bias, ep, k⟩ u τ h tk ⟨h1, h2, h3, h4, h5, h6, h7, h8, h9, h10⟩ F' N'
    dsimp only [nm, V0.mk] at F'
    dsimp only at h1 h2 h3 h4 h5 h6 h7 h8 h9 h10 ⊢
    cases rem with
    | nil =>
      simp only [giL, List.length_nil, Nat.add_zero] at h4
      simp only [insL] at h1
      k_steps
      dsimp only
      rw [h1]
      exact ret _ _ _ (Fr.keep (by assumption))
    | cons d r =>
      simp only [giL] at h3 h4
      have hat' := h3.left
      have hd60 : d < 2 ^ 60 := h8 d (.head _)
      have hgl := ggi_ne bias 0 d
      rw [List.length_append] at h4
      simp only [insL] at h1
      simp only [InsOk] at h2
      have hfd : Int.fdiv ((q : Int) - 1 + ((d : Int) + 1)) ((bs.length : Int) + 1) = (((q + d) / (bs.length + 1) : Nat) : Int) := by
        rw [show ((q : Int) - 1 + ((d : Int) + 1)) = ((q + d : Nat) : Int) by omega, castS bs.length, fdivN]
      have hfm : Int.fmod ((q : Int) - 1 + ((d : Int) + 1)) ((bs.length : Int) + 1) = (((q + d) % (bs.length + 1) : Nat) : Int) := by
        rw [show ((q : Int) - 1 + ((d : Int) + 1)) = ((q + d : Nat) : Int) by omega, castS bs.length, fmodN]
      have hmd : (q + d) % (bs.length + 1) ≤ bs.length := Nat.lt_succ_iff.mp (Nat.mod_lt _ (Nat.succ_pos _))
      generalize (q + d) / (bs.length + 1) = dv at h1 h2 hfd
      generalize (q + d) % (bs.length + 1) = md at h1 h2 hfm hmd
      obtain ⟨hc1, hc2⟩ := h2
      have hbl : bs.length ≤ 11000 := h5 ▸ Nat.add_le_add hb (Nat.le_trans (Nat.le_of_lt (add1_lt h6)) hn)
      have h40 : bs.length ≤ 2 ^ 40 := Nat.le_trans hbl (by decide)
      have hna : ((bs.length : Int) + 1).natAbs < 1073741824 := Nat.lt_of_le_of_lt (Nat.succ_le_succ hbl) (by decide)
      have hlen : (bs.take md ++ [char + dv] ++ bs.drop md).length = bs.length + 1 := len_ins hmd
      have hlen40 : (bs.take md ++ [char + dv] ++ bs.drop md).length ≤ 2 ^ 40 := by rw [hlen]; exact Nat.le_trans (Nat.succ_le_succ hbl) (by decide)
      k_steps
      (refine' dgn_spec (Frag.In.keeps (by assumption) (Fr.keep (by assumption))) (Top.keeps (by assumption) (Fr.keep (by assumption))) (dep (m := 2) hdp (by decide)) (by assumption) ?a1 ?a2 ?a3 ?_; (case a1 => assumption); (case a2 => assumption); (case a3 => assumption); intro T' t1' t2' h' tk' k' kn' kt'; have N2' := News.new (by assumption) (by assumption) kn' kt' k'; have F' := Fr.kp (by assumption) k'; clear k' kn' kt')
      k_steps
      refine add_at (a := bs.take md) (b := [char + dv]) (slice_to_st hfm hmd) (by rw [hfd]; rfl) (Nat.le_trans (Nat.succ_le_succ (Nat.le_trans (List.length_take_le' _ _) hbl)) (by decide)) fun t5 tk5 => ?_
      k_steps
      refine add_at (a := bs.take md ++ [char + dv]) (b := bs.drop md) rfl (slice_from_st hfm hmd) (by rw [← List.length_append, hlen]; exact Nat.le_trans (Nat.succ_le_succ hbl) (by decide)) fun t6 tk6 => ?_
      k_steps
      rename Fr _ _ _ _ => F5
      refine adapt_at (A := A.deeper _) (d := d) (n := bs.length + 1) (Frag.In.keeps X F5.keep) (T.keeps F5.keep) (dep (m := 1) hdp (by decide)) hh rfl (by rw [hlen]) hd60 ⟨Nat.succ_pos _, Nat.lt_of_le_of_lt (Nat.succ_le_succ hbl) (by decide)⟩ fun rr t8 h8' tk8 hr k8 => ?_
      subst hr
      have F6 := Fr.kp F5 k8
      have N6 := News.kp (by assumption) k8
      k_steps
      dsimp only
      have hbk : ((ep : Int) == 0) = (k == 0) := by
        by_cases e0 : ep = 0
        · have := h7.mp e0; subst e0 this; rfl
        · have h71 : k ≠ 0 := fun z => e0 (h7.mpr z)
          rw [(show ((ep : Int) == 0) = false from beq_eq_false_iff_ne.mpr fun z => e0 (Int.ofNat_inj.mp z)), beq_eq_false_iff_ne.mpr h71]
      refine End.intro ⟨r, bs.take md ++ [char + dv] ++ bs.drop md, char + dv, md + 1, adaptN d (k == 0) (base.length + k + 1), ep + (ggi bias 0 d).length, k + 1⟩ (by assumption) (by assumption) (fun _ h => nomatch h)
        (Known.str (by with_unfolding_all rfl) rfl (Known.bytes (by with_unfolding_all rfl) rfl (Known.str (by with_unfolding_all rfl) rfl (Known.int (by with_unfolding_all rfl) ?_ (Known.int (by with_unfolding_all rfl) ?_ (Known.int (by with_unfolding_all rfl) ?_ (Known.int (by with_unfolding_all rfl) rfl Known.nil)))))))
        ⟨⟨?_, ?_, h3.right, ?_, ?_, ?_, ?_, fun x hx => h8 x (.tail _ hx), hc1, ?_⟩, ?_⟩
      · rw [hfd]; rfl
      · rw [hfm]; exact (Int.add_sub_cancel (md : Int) 1).symm
      · rw [hbk, h5]
      · rw [← h1, List.append_assoc]; rfl
      · rw [List.append_assoc]; exact hc2
      · exact h4.trans (Nat.add_assoc _ _ _).symm
      · exact hlen.trans (congrArg Nat.succ h5)
      · exact add1_eq h6
      · exact ⟨fun z => absurd (Nat.le_trans hgl (Nat.le_trans (Nat.le_add_left _ ep) (Nat.le_of_eq z))) (by decide), fun z => absurd z (Nat.succ_ne_zero k)⟩
      · exact Nat.le_trans (Nat.succ_le_succ (Nat.le_trans hmd hbl)) (by decide)
      · exact Nat.lt_succ_self _
end Mine
end
end
section
namespace Mine
namespace F
theorem by_slot_rfind : Slot "bytes" "rfind" "bytes.rfind" :=
  .of (owner := "bytes") (n := "rfind") (by rw [typeLookup_type, builtinLookup_eq_fast]; kernel_rfl) (by decide +kernel) (by decide +kernel) (by decide +kernel)
    (by first | exact .inl (by decide +kernel) | exact .inr (by decide +kernel)) (by rw [isSubtype_type]; kernel_rfl)
theorem by_slot_upper : Slot "bytes" "upper" "bytes.upper" :=
  .of (owner := "bytes") (n := "upper") (by rw [typeLookup_type, builtinLookup_eq_fast]; kernel_rfl) (by decide +kernel) (by decide +kernel) (by decide +kernel)
    (by first | exact .inl (by decide +kernel) | exact .inr (by decide +kernel)) (by rw [isSubtype_type]; kernel_rfl)
theorem by_ty_rfind : typeOf (.builtin "bytes.rfind") = pure (.type "method_descriptor") := by kernel_rfl
theorem by_ty_upper : typeOf (.builtin "bytes.upper") = pure (.type "method_descriptor") := by kernel_rfl
theorem by_entry_rfind : entryFor table "bytes.rfind" = some Builtin.«bytes.rfind» := entryFor_of_tree (by kernel_rfl)
theorem by_entry_upper : entryFor table "bytes.upper" = some Builtin.«bytes.upper» := entryFor_of_tree (by kernel_rfl)
theorem by_args_rfind (a v : Value) : argsOk "bytes.rfind" ⟨[a, v], []⟩ := by unfold argsOk; kernel_rfl
theorem by_args_upper (a : Value) : argsOk "bytes.upper" ⟨[a], []⟩ := by unfold argsOk; kernel_rfl
theorem str_typeCall (a b c : Value) : checkTypeCall "str" ⟨[a, b, c], []⟩ = pure () := by kernel_rfl
theorem str_newCall (a b c : Value) : checkBuiltinCall "str.__new__" ⟨[.type "str", a, b, c], []⟩ = pure () := by kernel_rfl
theorem str_initArgs (o a b c : Value) : argsOk "object.__init__" ⟨[o, a, b, c], []⟩ := by unfold argsOk; kernel_rfl
theorem by_args_decode (a u v : Value) : argsOk "bytes.decode" ⟨[a], [(Str.ofString "encoding", u), (Str.ofString "errors", v)]⟩ := by unfold argsOk; kernel_rfl
end F
section
variable {prog : Program} {w : World} {A : Around} {E : Value → Shared → Prop} {s : Shared} {b : Array UInt8} {t u v : Tok}
theorem getMethod_rfind {pl : Sem Bool} {Q : Value × List Value → Shared → Prop} (h : Q (.builtin "bytes.rfind", [.bytes b t]) s) : wpAny (model prog w) A (getMethod (.bytes b t) (Str.ofString "rfind") pl) Q E s :=
  by with_reducible exact getMethod_builtin (typeIs_bytes s b t) FB.plainAttrs_bytes F.by_slot_rfind F.by_ty_rfind (by intro _ e; cases e) h
theorem getMethod_upper {pl : Sem Bool} {Q : Value × List Value → Shared → Prop} (h : Q (.builtin "bytes.upper", [.bytes b t]) s) : wpAny (model prog w) A (getMethod (.bytes b t) (Str.ofString "upper") pl) Q E s :=
  by with_reducible exact getMethod_builtin (typeIs_bytes s b t) FB.plainAttrs_bytes F.by_slot_upper F.by_ty_upper (by intro _ e; cases e) h
theorem new_eq : Builtin.«str.__new__» ⟨[.type "str", .bytes b t, .str (Str.ofString "ascii") u, .str (Str.ofString "strict") v], []⟩ =
    (do let e ← mkStr (Str.ofString "ascii"); let r ← mkStr (Str.ofString "strict"); rule "str.__new__.decode-bytes"; let m ← call (.builtin "bytes.decode") [.bytes b t] [(Str.ofString "encoding", e), (Str.ofString "errors", r)]; ret m) := by kernel_rfl
theorem dec_eq {c : UInt8} {cs : List UInt8} : Builtin.«bytes.decode» ⟨[.bytes (c :: cs).toArray t], [(Str.ofString "encoding", .str (Str.ofString "ascii") u), (Str.ofString "errors", .str (Str.ofString "strict") v)]⟩ =
    (mkStr (Str.ofString "utf-8") >>= fun _ => mkStr (Str.ofString "ascii") >>= fun e => mkStr (Str.ofString "strict") >>= fun r => mkStr (Str.ofString "bytes.decode") >>= fun d =>
      call (.builtin "_codecs.decode.text") [.bytes (c :: cs).toArray t, e, r, d] >>= fun m => ret m) := by kernel_rfl
theorem road_eq {id : String} : Builtin._codecs.decodeRoad id b (Str.ofString "ascii") (some (Str.ofString "strict")) [] = (Builtin._codecs.runDecoder id Builtin._codecs.asciiDecoder (some (Str.ofString "strict")) true b 0 [] >>= fun r => mkStr ⟨r.1⟩) := by kernel_rfl
end
end Mine
end
section
namespace Mine
/-- the last place of a hyphen -/
noncomputable def lastDash (b : Array UInt8) : Option Nat := Builtin.Bytes.rfind? b #[45] 0 b.size
noncomputable def dashInt (b : Array UInt8) : Int := match lastDash b with | some i => (i : Int) | none => -1
section
variable {prog : Program} {w : World} {A : Around} {E : Value → Shared → Prop} {s : Shared} {b : Array UInt8} {t u v : Tok}
theorem call_rfind {Q : Value → Shared → Prop} (h : ∀ t' tk, Q (.int (dashInt b) t') { s with toks := tk }) : wpAny (model prog w) A (call (.builtin "bytes.rfind") [.bytes b t, .bytes #[45] u]) Q E s := by
  refine wpAny_call_entry F.by_slot_rfind (typeIs_bytes s b t) F.by_entry_rfind ?_ (F.by_args_rfind _ _)
  unfold Builtin.«bytes.rfind» Builtin.Bytes.searchM Builtin.Bytes.searchArgs
  refine wpAny_bind (wpAny_bind (wpAny_of_eq (a := (Value.bytes b t, [Value.bytes #[45] u])) rfl ?_))
  refine wpAny_bind (wpAny_of_eq (a := none) rfl ?_)
  refine wpAny_bind (wpAny_of_eq (a := none) rfl ?_)
  refine wpAny_bind (wpAny_of_eq (KBy.buffer_eq (id := _) (b := #[45]) (t := u)) ?_)
  refine wpAny_bind (wpAny_pure ?_)
  refine wpAny_bind (wpAny_of_eq (a := b) rfl (wpAny_pure ?_))
  have hw : ((if min (b.size : Int) (if (b.size : Int) < 0 then max 0 ((b.size : Int) + b.size) else (b.size : Int)) - (if (0 : Int) < 0 then max 0 (0 + (b.size : Int)) else 0) < ((#[45] : Array UInt8).size : Int) then none
      else some ((if (0 : Int) < 0 then max 0 (0 + (b.size : Int)) else 0).toNat, (min (b.size : Int) (if (b.size : Int) < 0 then max 0 ((b.size : Int) + b.size) else (b.size : Int))).toNat)) : Option (Nat × Nat)).bind (fun x => match x with | (lo, hi) => if true = true then Builtin.Bytes.rfind? b #[45] lo hi else Builtin.Bytes.find? b #[45] lo hi) = lastDash b := by
    have e0 : ¬ (b.size : Int) < 0 := by omega
    have e1 : min (b.size : Int) (b.size : Int) = (b.size : Int) := by omega
    simp only [e0, if_false, Int.lt_irrefl, e1, if_true, Int.sub_zero, Int.toNat_natCast, Int.toNat_zero]
    by_cases h0 : b.size = 0
    · have : ((b.size : Nat) : Int) < ((#[45] : Array UInt8).size : Int) := by rw [h0]; decide
      rw [if_pos this]
      unfold lastDash Builtin.Bytes.rfind?
      rw [h0]
      rfl
    · have : ¬ ((b.size : Nat) : Int) < ((#[45] : Array UInt8).size : Int) := by simp; omega
      rw [if_neg this]
      rfl
  dsimp only [Option.getD_none]
  rw [hw]
  have h' := h
  unfold dashInt at h'
  cases hd : lastDash b with
  | some i =>
    rw [hd] at h'
    exact wpAny_bind (wpAny_mkInt (wpAny_pure ⟨_, rfl, h' _ _⟩))
  | none =>
    rw [hd] at h'
    refine wpAny_bind (wpAny_rule ?_)
    exact wpAny_bind (wpAny_mkInt (wpAny_pure ⟨_, rfl, h' _ _⟩))
theorem call_upper {Q : Value → Shared → Prop} (hz : b.size ≤ sizeLine) (h : ∀ t' tk, Q (.bytes (b.map Builtin.Bytes.toUpper) t') { s with toks := tk }) : wpAny (model prog w) A (call (.builtin "bytes.upper") [.bytes b t]) Q E s := by
  refine wpAny_call_entry F.by_slot_upper (typeIs_bytes s b t) F.by_entry_upper ?_ (F.by_args_upper _)
  unfold Builtin.«bytes.upper» Builtin.Bytes.mappedM
  refine wpAny_bind (wpAny_of_eq (a := Value.bytes b t) rfl ?_)
  refine wpAny_bind (wpAny_of_eq (a := b) rfl ?_)
  have e : (List.map Builtin.Bytes.toUpper b.toList).toArray = b.map Builtin.Bytes.toUpper := by rw [← Array.toList_map]
  rw [e]
  exact wpAny_bind (wpAny_mkBytes (wpAny_pure ⟨_, rfl, h _ _⟩) (by rw [Array.size_map]; exact hz))
theorem forIn_run {f : Nat → (Nat × Array Nat × Builtin._codecs.Faults) → Sem (ForInStep (Nat × Array Nat × Builtin._codecs.Faults))} (hz : b.size ≤ sizeLine)
    (hf : ∀ x p out st, p < b.size → out.size ≤ sizeLine → f x (p, out, st) = pure (.yield (p + 1, out ++ [(b.getD p 0).toNat].toArray, st))) :
    ∀ (l : List Nat) (p : Nat) (st : Builtin._codecs.Faults), p + l.length = b.size → forIn l (p, ((b.toList.take p).map UInt8.toNat).toArray, st) f = (pure (p + l.length, ((b.toList.take (p + l.length)).map UInt8.toNat).toArray, st) : Sem _)
  | [], p, st, _ => rfl
  | x :: l, p, st, h => by
    rw [List.length_cons] at h
    rw [List.forIn_cons, hf x p _ st (by omega) (by simp only [List.size_toArray, List.length_map, List.length_take, Array.length_toList]; omega)]
    show forIn l (p + 1, ((b.toList.take p).map UInt8.toNat).toArray ++ [(b.getD p 0).toNat].toArray, st) f = _
    have e : ((b.toList.take p).map UInt8.toNat).toArray ++ [(b.getD p 0).toNat].toArray = ((b.toList.take (p + 1)).map UInt8.toNat).toArray := by
      apply Array.toList_inj.mp
      rw [List.take_add_one]
      have hp : p < b.size := by omega
      simp [hp]
    rw [e, forIn_run hz hf l (p + 1) st (by omega), List.length_cons]
    congr 1
    simp only [Nat.add_assoc, Nat.add_comm 1]
theorem forIn_then {f : Nat → (Nat × Array Nat × Builtin._codecs.Faults) → Sem (ForInStep (Nat × Array Nat × Builtin._codecs.Faults))} (hz : b.size ≤ sizeLine)
    (hf : ∀ x p out st, p < b.size → out.size ≤ sizeLine → f x (p, out, st) = pure (.yield (p + 1, out ++ [(b.getD p 0).toNat].toArray, st))) :
    (forIn (List.range' 0 ((b.size - 0 + 1 - 1) / 1)) (0, #[], {}) f >>= fun s => pure (s.2.1, s.1)) = (pure (b.map UInt8.toNat, b.size) : Sem _) := by
  have key := forIn_run hz hf (List.range' 0 ((b.size - 0 + 1 - 1) / 1)) 0 {} (by simp)
  simp only [List.take_zero, List.map_nil] at key
  rw [key]
  show (pure (_, _) : Sem (Array Nat × Nat)) = _
  have e : List.take b.size (List.map UInt8.toNat b.toList) = List.map UInt8.toNat b.toList := List.take_of_length_le (by simp)
  have e2 : (List.map UInt8.toNat b.toList).toArray = Array.map UInt8.toNat b := by rw [← Array.toList_map]
  simp [e, e2]
theorem run_ascii {id : String} (hb : ∀ x ∈ b, x.toNat < 128) (hz : b.size ≤ sizeLine) : Builtin._codecs.runDecoder id Builtin._codecs.asciiDecoder (some (Str.ofString "strict")) true b 0 [] = pure (b.map UInt8.toNat, b.size) := by
  unfold Builtin._codecs.runDecoder
  simp only [Std.Legacy.Range.forIn_eq_forIn_range', Std.Legacy.Range.size]
  refine forIn_then hz fun x p out st hp ho => ?_
  have hlt : ((b.getD p 0).toNat) < 128 := by
    rw [Array.getD_eq_getD_getElem?, Array.getElem?_eq_getElem hp]
    exact hb _ (Array.getElem_mem hp)
  dsimp only
  rw [if_neg (by omega), if_neg (by omega)]
  have e : Builtin._codecs.asciiDecoder.find true b p = .text [(b.getD p 0).toNat] (p + 1) := by
    show (let c := (b.getD p 0).toNat; if c < 128 then _ else _) = _
    dsimp only
    rw [if_pos hlt]
    rfl
  rw [e]
theorem call_meets_kw {T : String} {name : Str} {id : String} {B : Builtin} {self : Value} {rest : List Value} {kw : List (Str × Value)} {S : PySem.Spec} {Q : Value → Shared → Prop} (slot : Slot T name id) (hT : s.TypeIs self T)
    (entry : entryFor table id = some B) (args : argsOk id ⟨self :: rest, kw⟩) (g : Meets (B ⟨self :: rest, kw⟩) S) (h : S A (wants Q E) s) : wpAny (model prog w) A (call (.builtin id) (self :: rest) kw) Q E s :=
  wpAny_call (codeAny_call_builtin slot.plain entry (slot.check _ _ _ _ _ _ kw _ hT args (g prog w A (wants Q E) s h)))
theorem meets_ascii {e1 e2 : Tok} {d : Str} {td : Tok} (hb : ∀ x ∈ b, x.toNat < 128) (hz : b.size ≤ sizeLine) :
    Meets (Builtin.«_codecs.decode.text» ⟨[.bytes b t, .str (Str.ofString "ascii") e1, .str (Str.ofString "strict") e2, .str d td], []⟩) (fun _ R s => ∀ t' tk, R (.ok (.ret (.str ⟨b.map UInt8.toNat⟩ t'))) { s with toks := tk }) := by
  refine .of_wp fun prog w A R s h => ?_
  show wpAny _ _ (Builtin.Bytes.bytesLike _ (.bytes b t) >>= fun r => _) _ _ s
  refine wpAny_bind (wpAny_of_eq KBd.like_eq ?_)
  refine wpAny_bind (wpAny_of_eq KBd.held_eq ?_)
  show wpAny _ _ (Builtin._codecs.decodeRoad _ b (Str.ofString "ascii") (some (Str.ofString "strict")) [] >>= fun v => _) _ _ s
  rw [road_eq, run_ascii hb hz]
  refine wpAny_bind (wpAny_bind (wpAny_pure ?_))
  exact wpAny_mkStr (wpAny_pure ⟨_, rfl, h _ _⟩) (by show (b.map UInt8.toNat).size ≤ _; rw [Array.size_map]; exact hz)
theorem meets_dec {c : UInt8} {cs : List UInt8} (hb : ∀ x ∈ (c :: cs), x.toNat < 128) (hz : (c :: cs).length ≤ sizeLine) :
    Meets (Builtin.«bytes.decode» ⟨[.bytes (c :: cs).toArray t], [(Str.ofString "encoding", .str (Str.ofString "ascii") u), (Str.ofString "errors", .str (Str.ofString "strict") v)]⟩) (fun _ R s => ∀ t' tk, R (.ok (.ret (.str ⟨(c :: cs).toArray.map UInt8.toNat⟩ t'))) { s with toks := tk }) := by
  refine .of_wp fun prog w A R s h => ?_
  rw [dec_eq]
  refine wpAny_bind (wpAny_mkStr ?_ (by decide))
  refine wpAny_bind (wpAny_mkStr ?_ (by decide))
  refine wpAny_bind (wpAny_mkStr ?_ (by decide))
  refine wpAny_bind (wpAny_mkStr ?_ (by decide))
  refine wpAny_bind (call_function_meets KBd.kind_text KBd.plain_text KBd.entry_text (KBd.args_text _ _ _ _) (meets_ascii (fun x hx => hb x (by simpa using hx)) hz) fun t' tk => wpAny_pure ⟨_, rfl, h _ _⟩)
theorem call_str_ascii {c : UInt8} {cs : List UInt8} {Q : Value → Shared → Prop} (hb : ∀ x ∈ (c :: cs), x.toNat < 128) (hz : (c :: cs).length ≤ sizeLine) (h : ∀ t' tk, Q (.str ⟨(c :: cs).toArray.map UInt8.toNat⟩ t') { s with toks := tk }) :
    wpAny (model prog w) A (call (.type "str") [.bytes (c :: cs).toArray t, .str (Str.ofString "ascii") u, .str (Str.ofString "strict") v]) Q E s := by
  have g : Meets (Builtin.«str.__new__» ⟨[.type "str", .bytes (c :: cs).toArray t, .str (Str.ofString "ascii") u, .str (Str.ofString "strict") v], []⟩) (fun _ R s => ∀ t' tk, R (.ok (.ret (.str ⟨(c :: cs).toArray.map UInt8.toNat⟩ t'))) { s with toks := tk }) := by
    refine .of_wp fun prog w A R s hS => ?_
    rw [new_eq]
    refine wpAny_bind (wpAny_mkStr ?_ (by decide))
    refine wpAny_bind (wpAny_mkStr ?_ (by decide))
    refine wpAny_bind (wpAny_rule ?_)
    exact wpAny_bind (call_meets_kw FB.slot_bytes_decode (typeIs_bytes _ _ _) FB.entry_bytes_decode (F.by_args_decode _ _ _) (meets_dec hb hz) fun t' tk => wpAny_pure ⟨_, rfl, hS t' tk⟩)
  exact callType_new PySem.F.called_str (by decide) (F.str_typeCall _ _ _) (F.str_newCall _ _ _) (fun obj => F.str_initArgs obj _ _ _) PySem.F.entry_str_new g fun t' tk => ⟨typeIs_str _ _ _, h t' tk⟩
end
end Mine
end
section
namespace Mine
theorem bInts_inj {a b : Array UInt8} (h : KBw.bInts a = KBw.bInts b) : a = b := by
  apply Array.toList_inj.mp
  unfold KBw.bInts at h
  have key : ∀ (x y : List UInt8), x.map (fun c => (c.toNat : Int)) = y.map (fun c => (c.toNat : Int)) → x = y := by
    intro x
    induction x with
    | nil => intro y e; cases y with | nil => rfl | cons _ _ => cases e
    | cons c x ih =>
      intro y e
      cases y with
      | nil => cases e
      | cons d y =>
        rw [List.map_cons, List.map_cons] at e
        injection e with e1 e2
        rw [ih y e2, UInt8.toNat_inj.mp (Int.ofNat.inj e1)]
  exact key _ _ h
section
variable {prog : Program} {w : World} {A : Around} {E : Value → Shared → Prop} {s : Shared} {value slice : PySem.Expr} {b : Array UInt8} {t u : Tok} {h₀ : Heap} {L : Addr} {m : PySem.Str → Option Value} {news : List (Addr × Obj)} {Q : Value → Shared → Prop}
theorem clip_nat {n k : Nat} (h : k ≤ n) : clipAt n (k : Int) = k := by unfold clipAt; rw [if_neg (by omega)]; omega
theorem slice_to_by {k : Nat} {kk : Int} (e : kk = (k : Int)) (hk : k ≤ b.size) (hz : b.size ≤ 2 ^ 20) (hF : Fr h₀ L s.heap m) (hN : News h₀ L s.heap news)
    (h : ∀ h' t' k', Fr h₀ L h' m → News h₀ L h' news → Q (.bytes (b.extract 0 k) t') { s with heap := h', toks := k' })
    (hs : subscripted slice false (.bytes b t) (.ref s.heap.objs.size) = operate [.ref s.heap.objs.size, .bytes b t] (getItem (.bytes b t) (.ref s.heap.objs.size)) := by with_unfolding_all rfl)
    (ht : ∀ r, letTemporaryGo value (.bytes b t) r = pure () := by intro _; with_unfolding_all rfl) :
    wpAny (model prog w) A (subscriptTail value slice (.bytes b t) (.ref s.heap.objs.size)) Q E { s with heap := s.heap.push { cls := .type "slice", data := .fields #[.none, .int kk u, .none] } } := by
  subst e
  refine KBc.slice_K hF hN rfl .none (.int _ _) (by rw [KBw.ints_length]; omega) (fun h' t' k' F N e => ?_) hs ht
  have : KBy.picked b none (some (k : Int)) = b.extract 0 k := bInts_inj (by
    rw [e]
    simp only [Option.elim, KBw.ints_length, clip_nat hk, List.drop_zero, Nat.sub_zero]
    unfold KBw.bInts
    simp)
  rw [this]
  exact h h' t' k' F N
theorem slice_from_by {k : Nat} {kk : Int} (e : kk = (k : Int)) (hk : k ≤ b.size) (hz : b.size ≤ 2 ^ 20) (hF : Fr h₀ L s.heap m) (hN : News h₀ L s.heap news)
    (h : ∀ h' t' k', Fr h₀ L h' m → News h₀ L h' news → Q (.bytes (b.extract k b.size) t') { s with heap := h', toks := k' })
    (hs : subscripted slice false (.bytes b t) (.ref s.heap.objs.size) = operate [.ref s.heap.objs.size, .bytes b t] (getItem (.bytes b t) (.ref s.heap.objs.size)) := by with_unfolding_all rfl)
    (ht : ∀ r, letTemporaryGo value (.bytes b t) r = pure () := by intro _; with_unfolding_all rfl) :
    wpAny (model prog w) A (subscriptTail value slice (.bytes b t) (.ref s.heap.objs.size)) Q E { s with heap := s.heap.push { cls := .type "slice", data := .fields #[.int kk u, .none, .none] } } := by
  subst e
  refine KBc.slice_K hF hN rfl (.int _ _) .none (by rw [KBw.ints_length]; omega) (fun h' t' k' F N e => ?_) hs ht
  have : KBy.picked b (some (k : Int)) none = b.extract k b.size := bInts_inj (by
    rw [e]
    simp only [Option.elim, KBw.ints_length, clip_nat hk]
    unfold KBw.bInts
    simp)
  rw [this]
  exact h h' t' k' F N
end
end Mine
end
section
theorem Mine.anewPe : True := by w_top off; trivial
namespace Mine
theorem rev_find {p : Nat → Bool} : ∀ (n : Nat), (∀ i < n, p i = false) → (List.range n).reverse.find? p = none
  | 0, _ => rfl
  | n + 1, h => by
    rw [List.range_succ, List.reverse_append, List.reverse_singleton, List.singleton_append, List.find?_cons, h n (Nat.lt_succ_self n)]
    exact rev_find n fun i hi => h i (Nat.lt_succ_of_lt hi)
theorem rev_find_some {p : Nat → Bool} {k : Nat} (hk : p k = true) : ∀ (n : Nat), k < n → (∀ i < n, k < i → p i = false) → (List.range n).reverse.find? p = some k
  | 0, h, _ => absurd h (Nat.not_lt_zero _)
  | n + 1, h, hf => by
    rw [List.range_succ, List.reverse_append, List.reverse_singleton, List.singleton_append, List.find?_cons]
    by_cases e : k = n
    · subst e; rw [hk]
    · rw [hf n (Nat.lt_succ_self n) (by omega)]
      exact rev_find_some hk n (by omega) fun i hi => hf i (Nat.lt_succ_of_lt hi)
theorem ext_dash {b : Array UInt8} {i : Nat} (h : i < b.size) : (b.extract i (i + 1) == #[45]) = (b[i] == 45) := by
  have e : b.extract i (i + 1) = #[b[i]] := by
    apply Array.ext
    · simp; omega
    · intro j h1 h2
      have : j = 0 := by simp at h2; omega
      subst this
      simp
  rw [e, Bool.eq_iff_iff, beq_iff_eq, beq_iff_eq]
  simp
theorem dash_eq (b : Array UInt8) : lastDash b = (List.range b.size).reverse.find? fun i => b.extract i (i + 1) == #[45] := by
  unfold lastDash Builtin.Bytes.rfind?
  have e : (List.range (b.size + 1 - (0 + (#[45] : Array UInt8).size))).map (· + 0) = List.range b.size := by simp
  rw [e]
  rfl
theorem no_dash {b : Array UInt8} (h : ∀ (i : Nat) (hi : i < b.size), b[i] ≠ 45) : dashInt b = -1 := by
  unfold dashInt
  rw [dash_eq, rev_find _ fun i hi => by rw [ext_dash hi]; simpa using h i hi]
theorem last_dash {b : Array UInt8} {k : Nat} (hk : k < b.size) (e : b[k] = 45) (h : ∀ (i : Nat) (hi : i < b.size), k < i → b[i] ≠ 45) : dashInt b = (k : Int) := by
  unfold dashInt
  rw [dash_eq, rev_find_some (k := k) (by rw [ext_dash hk, e]; rfl) _ hk fun i hi hki => by rw [ext_dash hi]; simpa using h i hi hki]
theorem ggi_lt (b : Nat) : ∀ (k j N : Nat), N < 2 ^ k → ∀ d ∈ ggi b j N, d < 36
  | 0, j, N, h, d, hd => by
    have hT := Tn_bounds j b
    rw [ggi, if_pos (by omega)] at hd
    rw [List.mem_singleton.mp hd]; omega
  | k + 1, j, N, h, d, hd => by
    have hT := Tn_bounds j b
    rw [ggi] at hd
    split at hd
    · rw [List.mem_singleton.mp hd]; omega
    · rcases List.mem_cons.mp hd with rfl | hd
      · have := Nat.mod_lt (N - Tn j b) (show 36 - Tn j b > 0 by omega); omega
      · have hk : (N - Tn j b) / (36 - Tn j b) < 2 ^ k := by
          refine (Nat.div_lt_iff_lt_mul (by omega)).mpr (Nat.lt_of_lt_of_le (Nat.lt_of_le_of_lt (Nat.sub_le _ _) h) ?_)
          rw [Nat.pow_succ]
          exact Nat.mul_le_mul_left _ (by omega)
        exact ggi_lt b k (j + 1) _ hk d hd
theorem giL_lt (size : Nat) : ∀ (l : List Nat) (k b : Nat), (∀ d ∈ l, d < 2 ^ 60) → ∀ d ∈ giL size k b l, d < 36
  | [], _, _, _, d, hd => by simp [giL] at hd
  | x :: l, k, b, h, d, hd => by
    simp only [giL, List.mem_append] at hd
    rcases hd with hd | hd
    · exact ggi_lt b 60 0 x (h x (.head _)) d hd
    · exact giL_lt size l _ _ (fun y hy => h y (.tail _ hy)) d hd
theorem dig_up : ∀ n < 36, Builtin.Bytes.toUpper (dig n).toUInt8 = (up n).toUInt8 := by decide
theorem dig_no : ∀ n < 36, (dig n).toUInt8 ≠ 45 := by decide
/-- a label: the ASCII signs, a hyphen if there are any, the figures -/
noncomputable def label (base : List Nat) (L : List Nat) : Array UInt8 := if base = [] then digs L else (base.map Nat.toUInt8).toArray ++ #[45] ++ digs L
theorem at_up {L : List Nat} (hL : ∀ d ∈ L, d < 36) : At ((digs L).map Builtin.Bytes.toUpper) 0 L := fun i d hd => by
  rw [Nat.zero_add]
  have hlt := (List.getElem?_eq_some_iff.mp hd).1
  have hmem : d ∈ L := List.mem_of_getElem? hd
  simp only [digs, Array.getElem?_map, List.getElem?_toArray, List.getElem?_map, hd, Option.map_some]
  rw [dig_up d (hL d hmem)]
theorem call_rfind_at {prog : Program} {w : World} {A : Around} {E : Value → Shared → Prop} {s : Shared} {b : Array UInt8} {t u : Tok} {k : Int} {Q : Value → Shared → Prop} (e : dashInt b = k) (h : ∀ t' tk, Q (.int k t') { s with toks := tk }) : wpAny (model prog w) A (call (.builtin "bytes.rfind") [.bytes b t, .bytes #[45] u]) Q E s :=
  call_rfind (by rw [e]; exact h)
theorem str_nil : Str.ofString "" = st [] := by decide
local macro_rules | `(tactic| walk_at "getMethod") => `(tactic| (k_here; first | refine getMethod_rfind ?_ | refine getMethod_upper ?_))
local macro_rules | `(tactic| walk_at "call builtin:bytes.rfind") => `(tactic| (k_here; (refine call_rfind_at (by assumption) ?_); intro t' tk'))
local macro_rules | `(tactic| walk_at "call builtin:bytes.upper") => `(tactic| (k_here; (refine call_upper ?z ?_); (case z => assumption); intro t' tk'))
theorem pd_spec0 {prog : Program} {w : World} {A : Around} {s : Shared} {p : Program} {loose : List Str} {mean : ExcName → Option Value} {mg mb : Str → Option Value} {Q E : Value → Shared → Prop}
    (X : (hd.heap_1 w.params).In s.heap) (T : Top p loose mean mg mb s.heap) (hdp : A.depth + 3 < recursionLimit) (hh : A.handled = none)
    {ds : List Nat} {t v : Tok} (hds : ∀ d ∈ ds, d < 2 ^ 60) (hn : ds.length ≤ 1000) (hok : InsOk [] 128 0 ds)
    (ret : ∀ t h' tk', Kp s.heap h' → Q (.str (st (insL [] 128 0 ds)) t) { s with heap := h', toks := tk' }) :
    wpAny (model prog w) A (call (.ref 217) [.bytes (digs (giL 0 0 72 ds)) t, .str (Str.ofString "strict") v]) Q E s := by
  have hlt := giL_lt 0 ds 0 72 hds
  have hlen := giL_len 0 ds 0 72 hds
  have hz : (digs (giL 0 0 72 ds)).size ≤ sizeLine := by rw [digs_size]; exact Nat.le_trans hlen (Nat.le_trans (Nat.mul_le_mul_left 61 hn) (by decide))
  have hnd : dashInt (digs (giL 0 0 72 ds)) = -1 := no_dash fun i hi => by
    simp only [digs, List.getElem_toArray, List.getElem_map]
    exact dig_no _ (hlt _ (List.getElem_mem _))
  k_dflt (refine' enter ([(Str.ofString "text", .bytes (digs (giL 0 0 72 ds)) t), (Str.ofString "errors", .str (Str.ofString "strict") v)]) X T (Ent.self _) ?k1 ?k2 (Nat.lt_of_le_of_lt (Nat.le_add_right _ _) hdp) ?k3 ?k4 ?k5 ?_ ?c1 ?c2 ?c3 ?c4; (case k1 => k_is); (case k2 => k_is); (case k3 => exact BindsTo.of_eq rfl); (case k4 => exact locs rfl); (case k5 => (dsimp only [List.map]; decide)); (case c1 => exact rfl); (case c2 => exact rfl); (case c3 => exact rfl); (case c4 => decide))
  intro L' h' u' tk' F' N'
  (try dsimp only)
  dsimp only [kstB] at F'
  refine wpAny_mono (E := Fa) ?_ (fun _ _ x => x) (fun _ _ x => x.elim)
  k_steps
  rename Fr _ _ _ _ => F2
  rw [str_nil]
  refine is_spec (A := A.deeper _) (base := []) (ds := ds) (Frag.In.keeps X F2.keep) (T.keeps F2.keep) (dep (m := 3) hdp (by decide)) hh ?_ hds hn (by simp) (at_up hlt) ?_ hok fun t' h' tk' k' => ?_
  · rw [Array.size_map]; exact Nat.le_trans hz (by decide)
  · rw [Array.size_map, digs_size]; rfl
  · exact ret _ _ _ (Kp.trans F2.keep k')
section
variable {base L : List Nat}
theorem lab_size : ((base.map Nat.toUInt8).toArray ++ #[45] ++ digs L).size = base.length + 1 + L.length := by simp [digs]; omega
theorem lab_to : ((base.map Nat.toUInt8).toArray ++ #[45] ++ digs L).extract 0 base.length = (base.map Nat.toUInt8).toArray := by
  apply Array.toList_inj.mp
  simp
theorem lab_from : ((base.map Nat.toUInt8).toArray ++ #[45] ++ digs L).extract (base.length + 1) ((base.map Nat.toUInt8).toArray ++ #[45] ++ digs L).size = digs L := by
  apply Array.toList_inj.mp
  simp [digs]
  rw [show List.map Nat.toUInt8 base ++ 45 :: List.map (fun n => UInt8.ofNat (dig n)) L = (List.map Nat.toUInt8 base ++ [45]) ++ List.map (fun n => UInt8.ofNat (dig n)) L by simp, List.drop_left' (by simp), List.take_of_length_le (by simp; omega)]
theorem lab_dash (hL : ∀ d ∈ L, d < 36) : dashInt ((base.map Nat.toUInt8).toArray ++ #[45] ++ digs L) = (base.length : Int) := by
  refine last_dash (by rw [lab_size]; omega) ?_ fun i hi hk => ?_
  · simp [Array.getElem_append]
  · rw [lab_size] at hi
    have h1 : ((base.map Nat.toUInt8).toArray ++ #[45]).size = base.length + 1 := by simp
    rw [Array.getElem_append_right (by rw [h1]; omega)]
    simp only [digs, List.getElem_toArray, List.getElem_map]
    exact dig_no _ (hL _ (List.getElem_mem _))
theorem back_base (hb : ∀ c ∈ base, c < 128) : (⟨(base.map Nat.toUInt8).toArray.map UInt8.toNat⟩ : Str) = st base := by
  show Str.mk _ = Str.mk _
  congr 1
  apply Array.toList_inj.mp
  simp only [List.map_toArray, List.map_map]
  conv => rhs; rw [← List.map_id base]
  refine List.map_congr_left fun c hc => ?_
  show (c.toUInt8).toNat = c
  rw [Nat.toUInt8_eq, UInt8.toNat_ofNat']
  exact Nat.mod_eq_of_lt (Nat.lt_trans (hb c hc) (by decide))
end
theorem pd_spec1 {prog : Program} {w : World} {A : Around} {s : Shared} {p : Program} {loose : List Str} {mean : ExcName → Option Value} {mg mb : Str → Option Value} {Q E : Value → Shared → Prop}
    (X : (hd.heap_1 w.params).In s.heap) (T : Top p loose mean mg mb s.heap) (hdp : A.depth + 3 < recursionLimit) (hh : A.handled = none)
    {base ds : List Nat} {t v : Tok} (hne : base ≠ []) (hb : ∀ c ∈ base, c < 128) (hbl : base.length ≤ 10000) (hds : ∀ d ∈ ds, d < 2 ^ 60) (hn : ds.length ≤ 1000) (hok : InsOk base 128 0 ds)
    (ret : ∀ t h' tk', Kp s.heap h' → Q (.str (st (insL base 128 0 ds)) t) { s with heap := h', toks := tk' }) :
    wpAny (model prog w) A (call (.ref 217) [.bytes ((base.map Nat.toUInt8).toArray ++ #[45] ++ digs (giL base.length 0 72 ds)) t, .str (Str.ofString "strict") v]) Q E s := by
  have hlt := giL_lt base.length ds 0 72 hds
  have hlen := giL_len base.length ds 0 72 hds
  have hz : (digs (giL base.length 0 72 ds)).size ≤ sizeLine := by rw [digs_size]; exact Nat.le_trans hlen (Nat.le_trans (Nat.mul_le_mul_left 61 hn) (by decide))
  have hnd := lab_dash (base := base) hlt
  have hsz := lab_size (base := base) (L := giL base.length 0 72 ds)
  have hto := lab_to (base := base) (L := giL base.length 0 72 ds)
  have hfrom := lab_from (base := base) (L := giL base.length 0 72 ds)
  generalize (base.map Nat.toUInt8).toArray ++ #[45] ++ digs (giL base.length 0 72 ds) = B at hnd hsz hto hfrom ⊢
  k_dflt (refine' enter ([(Str.ofString "text", .bytes B t), (Str.ofString "errors", .str (Str.ofString "strict") v)]) X T (Ent.self _) ?k1 ?k2 (Nat.lt_of_le_of_lt (Nat.le_add_right _ _) hdp) ?k3 ?k4 ?k5 ?_ ?c1 ?c2 ?c3 ?c4; (case k1 => k_is); (case k2 => k_is); (case k3 => exact BindsTo.of_eq rfl); (case k4 => exact locs rfl); (case k5 => (dsimp only [List.map]; decide)); (case c1 => exact rfl); (case c2 => exact rfl); (case c3 => exact rfl); (case c4 => decide))
  intro L' h' u' tk' F' N'
  (try dsimp only)
  dsimp only [kstB] at F'
  refine wpAny_mono (E := Fa) ?_ (fun _ _ x => x) (fun _ _ x => x.elim)
  obtain ⟨c, cs, hcs⟩ := List.exists_cons_of_ne_nil hne
  have hz20 : B.size ≤ 2 ^ 20 := by rw [hsz]; omega
  k_steps
  · exfalso; omega
  rename Fr _ _ _ _ => F2
  rename News _ _ _ _ => N2
  refine slice_to_by (s := ⟨_, _, _, _, _⟩) (k := base.length) rfl (by omega) hz20 F2 N2 fun h3 t3 tk3 F3 N3 => ?_
  rw [hto]
  k_steps
  rw [show (base.map Nat.toUInt8).toArray = (c.toUInt8 :: cs.map Nat.toUInt8).toArray by rw [hcs]; rfl]
  refine call_str_ascii ?_ ?_ fun t4 tk4 => ?_
  · intro x hx
    rw [← List.map_cons, ← hcs] at hx
    obtain ⟨y, hy, rfl⟩ := List.mem_map.mp hx
    have := hb y hy
    show (y.toUInt8).toNat < 128
    rw [Nat.toUInt8_eq, UInt8.toNat_ofNat', Nat.mod_eq_of_lt (Nat.lt_trans this (by decide))]
    exact this
  · rw [← List.map_cons, ← hcs, List.length_map]; exact Nat.le_trans hbl (by decide)
  rw [← List.map_cons, ← hcs, back_base hb]
  k_steps
  rename Fr _ _ _ _ => F5
  rename News _ _ _ _ => N5
  refine slice_from_by (s := ⟨_, _, _, _, _⟩) (k := base.length + 1) rfl (by omega) hz20 F5 N5 fun h6 t6 tk6 F6 N6 => ?_
  rw [hfrom]
  k_steps
  rename Fr _ _ _ _ => F7
  refine is_spec (A := A.deeper _) (base := base) (ds := ds) (Frag.In.keeps X F7.keep) (T.keeps F7.keep) (dep (m := 3) hdp (by decide)) hh ?_ hds hn hbl (at_up hlt) ?_ hok fun t' h' tk' k' => ?_
  · rw [Array.size_map]; exact Nat.le_trans hz (by decide)
  · rw [Array.size_map, digs_size]
  · exact ret _ _ _ (Kp.trans F7.keep k')
/-- punycode_decode of a label -/
theorem pd_spec {prog : Program} {w : World} {A : Around} {s : Shared} {p : Program} {loose : List Str} {mean : ExcName → Option Value} {mg mb : Str → Option Value} {Q E : Value → Shared → Prop}
    (X : (hd.heap_1 w.params).In s.heap) (T : Top p loose mean mg mb s.heap) (hdp : A.depth + 3 < recursionLimit) (hh : A.handled = none)
    {base ds : List Nat} {t v : Tok} (hb : ∀ c ∈ base, c < 128) (hbl : base.length ≤ 10000) (hds : ∀ d ∈ ds, d < 2 ^ 60) (hn : ds.length ≤ 1000) (hok : InsOk base 128 0 ds)
    (ret : ∀ t h' tk', Kp s.heap h' → Q (.str (st (insL base 128 0 ds)) t) { s with heap := h', toks := tk' }) :
    wpAny (model prog w) A (call (.ref 217) [.bytes (label base (giL base.length 0 72 ds)) t, .str (Str.ofString "strict") v]) Q E s := by
  unfold label
  by_cases e : base = []
  · subst e; rw [if_pos rfl]; exact pd_spec0 X T hdp hh hds hn hok ret
  · rw [if_neg e]; exact pd_spec1 X T hdp hh e hb hbl hds hn hok ret
end Mine
end
section
namespace Mine
section
variable {prog : Program} {w : World} {A : Around} {E : Value → Shared → Prop} {s : Shared} {env : Env} {h₀ : Heap} {L : Addr} {Q : Flow → Shared → Prop} {σ ι : Type}
/-- a loop over a list of pairs -/
theorem pairsA {xa xb : Str} {pa pb pos : Pos} {k : Nat} {body : List Stmt} {l : Addr} {ts : List (Addr × Value × Value)} {m₀ : Str → Option Value} (hh : A.handled = none) (ha : env.kindOf xa = some .local) (hb : env.kindOf xb = some .local) (hsc : PlainScope env)
    (hl : s.heap.IsList l (ts.map fun t => Value.ref t.1).toArray) (ht : PairsAt s.heap ts)
    (Led : σ → List (Addr × Obj)) (hfp : ∀ b ∈ l :: ts.map (·.1), (∃ o, h₀.get? b = some o) ∨ ∃ o, ∀ c, (b, o) ∈ Led c) (ps : σ → List (Str × V0)) (P : Nat → σ → Prop) (c₀ : σ) (hL : env.locals = L)
    (F : Fr h₀ L s.heap m₀) (N : News h₀ L s.heap (Led c₀)) (hk : Known m₀ (ps c₀)) (hp : P 0 c₀)
    (turn : ∀ i (c : σ) T v1 v2 own u τ h tk, ts[i]? = some (T, v1, v2) → P i c → OwnOff own ((Led c).map (·.1)) → Fr h₀ L h (fun y => if y = xb then some v2 else if y = xa then some v1 else nm u τ (ps c) y) → News h₀ L h (Led c ++ own) →
      wpAny (model prog w) A (execs body env) (Turn h₀ L s (fun c' => Led c' ++ own) ps (fun c' => P (i + 1) c' ∧ OwnOff own ((Led c').map (·.1))) Q) Fa { s with heap := h, toks := tk })
    (done : ∀ (c : σ) m τ h tk, P ts.length c → Fr h₀ L h (nm m τ (ps c)) → News h₀ L h (Led c) → Q .next { s with heap := h, toks := tk }) :
    IterA (model prog w) A (.Tuple [.Name xa pa, .Name xb pb] k pos) body env Q E (.ref l) s := by
  subst hL
  have hLs : @LT.lt Nat _ env.locals s.heap.objs.size := F.ns.lt
  have hab : @LE.le Nat _ h₀.objs.size env.locals := F.above
  have hlt := list_lt hl
  have htl : ∀ t ∈ ts, @LT.lt Nat _ t.1 s.heap.objs.size := fun t h => let ⟨o, ho, _⟩ := ht t h; Heap.lt_size ho
  have hfpL : ∀ b ∈ l :: ts.map (·.1), b ≠ env.locals := fun b hb e => by
    rcases hfp b hb with ⟨o, q⟩ | ⟨o, q⟩
    · have := Heap.lt_size q; rw [e] at this; exact Nat.lt_irrefl _ (Nat.lt_of_lt_of_le this hab)
    · exact (N _ (q c₀)).2.1 e
  unfold IterA
  refine wpAny_pyIter_list hl ?_
  refine for_my (s := { s with heap := s.heap.push _ }) (Draw.pairs (I := s.heap.objs.size) (l := l) (ts := ts) hh (Nat.ne_of_lt hlt) (fun t h => Nat.ne_of_lt (htl t h)) ha hb hsc ?_) Led ps P c₀ (F.push _) (fun p hp => ⟨Heap.get?_push_of_some _ (N p hp).1, (N p hp).2⟩)
    ⟨⟨_, Heap.get?_push_size _ rfl, rfl, rfl⟩, hl.at fun o e => Heap.get?_push_of_some _ e, fun t h => let ⟨o, ho, r⟩ := ht t h; ⟨o, Heap.get?_push_of_some _ ho, r⟩⟩
    (fun p hp hb => ?_) hk hp (fun b hb => ?_) (fun b hb => ?_) (fun i c x own u τ h tk hi hx hP _ off F' N' => turn i c x.1 x.2.1 x.2.2 own u τ h tk hx hP off F' N') done
  · intro hm
    rcases List.mem_cons.mp hm with e | hm
    · rw [e] at hLs; exact Nat.lt_irrefl _ hLs
    · exact hfpL _ hm rfl
  · have := Heap.lt_size (N p hp).1
    rw [List.mem_singleton.mp hb] at this
    exact Nat.lt_irrefl _ this
  · rw [List.mem_singleton.mp hb]
    exact ⟨Heap.get?_none_of_le (Nat.le_trans hab (Nat.le_of_lt hLs)), fun e => by rw [← e] at hLs; exact Nat.lt_irrefl _ hLs⟩
  · rcases List.mem_cons.mp hb with e | hb
    · exact .inl (by rw [e]; exact .head _)
    · exact .inr (hfp b hb)
theorem pairsC {xa xb : Str} {pa pb pos : Pos} {k : Nat} {body : List Stmt} {l : Addr} {ts : List (Addr × Value × Value)} {m₀ : Str → Option Value} (hh : A.handled = none) (ha : env.kindOf xa = some .local) (hb : env.kindOf xb = some .local) (hsc : PlainScope env)
    (hl : s.heap.IsList l (ts.map fun t => Value.ref t.1).toArray) (ht : PairsAt s.heap ts)
    (Led : σ → List (Addr × Obj)) (hfp : ∀ b ∈ l :: ts.map (·.1), (∃ o, h₀.get? b = some o) ∨ ∃ o, ∀ c, (b, o) ∈ Led c) (ps : σ → List (Str × V0)) (P : Nat → σ → Prop) (c₀ : σ) (hL : env.locals = L)
    (F : Fr h₀ L s.heap m₀) (N : News h₀ L s.heap (Led c₀)) (hk : Known m₀ (ps c₀)) (hp : P 0 c₀)
    (turn : ∀ i (c : σ) T v1 v2 own u τ h tk, ts[i]? = some (T, v1, v2) → P i c → OwnOff own ((Led c).map (·.1)) → Fr h₀ L h (fun y => if y = xb then some v2 else if y = xa then some v1 else nm u τ (ps c) y) → News h₀ L h (Led c ++ own) →
      wpC (model prog w) A (execs body env) (Turn h₀ L s (fun c' => Led c' ++ own) ps (fun c' => P (i + 1) c' ∧ OwnOff own ((Led c').map (·.1))) Q) { s with heap := h, toks := tk })
    (done : ∀ (c : σ) m τ h tk, P ts.length c → Fr h₀ L h (nm m τ (ps c)) → News h₀ L h (Led c) → Q .next { s with heap := h, toks := tk }) :
    IterC (model prog w) A (.Tuple [.Name xa pa, .Name xb pb] k pos) body env Q (.ref l) s := by
  subst hL
  have hLs : @LT.lt Nat _ env.locals s.heap.objs.size := F.ns.lt
  have hab : @LE.le Nat _ h₀.objs.size env.locals := F.above
  have hlt := list_lt hl
  have htl : ∀ t ∈ ts, @LT.lt Nat _ t.1 s.heap.objs.size := fun t h => let ⟨o, ho, _⟩ := ht t h; Heap.lt_size ho
  have hfpL : ∀ b ∈ l :: ts.map (·.1), b ≠ env.locals := fun b hb e => by
    rcases hfp b hb with ⟨o, q⟩ | ⟨o, q⟩
    · have := Heap.lt_size q; rw [e] at this; exact Nat.lt_irrefl _ (Nat.lt_of_lt_of_le this hab)
    · exact (N _ (q c₀)).2.1 e
  unfold IterC
  refine wpAny_pyIter_list hl ?_
  refine forC_my (s := { s with heap := s.heap.push _ }) (Draw.pairs (I := s.heap.objs.size) (l := l) (ts := ts) hh (Nat.ne_of_lt hlt) (fun t h => Nat.ne_of_lt (htl t h)) ha hb hsc ?_) Led ps P c₀ (F.push _) (fun p hp => ⟨Heap.get?_push_of_some _ (N p hp).1, (N p hp).2⟩)
    ⟨⟨_, Heap.get?_push_size _ rfl, rfl, rfl⟩, hl.at fun o e => Heap.get?_push_of_some _ e, fun t h => let ⟨o, ho, r⟩ := ht t h; ⟨o, Heap.get?_push_of_some _ ho, r⟩⟩
    (fun p hp hb => ?_) hk hp (fun b hb => ?_) (fun b hb => ?_) (fun i c x own u τ h tk hi hx hP _ off F' N' => turn i c x.1 x.2.1 x.2.2 own u τ h tk hx hP off F' N') done
  · intro hm
    rcases List.mem_cons.mp hm with e | hm
    · rw [e] at hLs; exact Nat.lt_irrefl _ hLs
    · exact hfpL _ hm rfl
  · have := Heap.lt_size (N p hp).1
    rw [List.mem_singleton.mp hb] at this
    exact Nat.lt_irrefl _ this
  · rw [List.mem_singleton.mp hb]
    exact ⟨Heap.get?_none_of_le (Nat.le_trans hab (Nat.le_of_lt hLs)), fun e => by rw [← e] at hLs; exact Nat.lt_irrefl _ hLs⟩
  · rcases List.mem_cons.mp hb with e | hb
    · exact .inl (by rw [e]; exact .head _)
    · exact .inr (hfp b hb)
end
end Mine
end
local macro_rules | `(tactic| walk_at "exec For Name Name cons nil") => `(tactic| (k_here; k_dflt (refine Mine.wpAny_For_my ?_)))
section
theorem Mine.anewNu : True := by w_top off; trivial
namespace Mine
local macro_rules | `(tactic| walk_at "call builtin:len") => `(tactic| (refine held ?_))
local macro_rules | `(tactic| walk_at "binaryOp FloorDiv int int") => `(tactic| ((with_reducible show wpAny _ _ (binaryOp .FloorDiv _ (.int ((35 : Int) ^ _) _)) _ _ _); refine held ?_))
/-- a row of figures read from behind -/
noncomputable def ev : List (Nat × Nat) → Nat → Nat
  | [], x => x
  | (f, b) :: r, x => f + (36 - b) * ev r x
theorem ev_snoc (f b : Nat) : ∀ (r : List (Nat × Nat)) (x : Nat), ev (r ++ [(f, b)]) x = ev r (f + (36 - b) * x)
  | [], _ => rfl
  | (g, c) :: r, x => by simp only [List.cons_append, ev]; rw [ev_snoc f b r x]
theorem find_dig : ∀ n < 36, Txt.find (Str.ofString "abcdefghijklmnopqrstuvwxyz0123456789") (st [dig n]) = (n : Int) := by decide +kernel
/-- the figures that are to come -/
noncomputable def Rest (size b k j N : Nat) : List Nat → List Nat
  | [] => []
  | d :: r => ggi b j N ++ giL size (k + 1) (adaptN d (k == 0) (size + k + 1)) r
noncomputable def Now (row : List (Nat × Nat)) (N : Nat) : List Nat → Prop
  | [] => row = []
  | d :: _ => ev row N = d
theorem rest_start (size b k : Nat) (l : List Nat) : giL size k b l = Rest size b k 0 (l.headD 0) l := by cases l <;> rfl
theorem now_start (l : List Nat) : Now [] (l.headD 0) l := by cases l <;> rfl
theorem chr_nat {prog : Program} {w : World} {A : Around} {E : Value → Shared → Prop} {s : Shared} {c : Nat} {t : Tok} {Q : Value → Shared → Prop} (hc : c ≤ 1114111) (h : ∀ t' tk, Q (.str (st [c]) t') { s with toks := tk }) : wpAny (model prog w) A (call (.builtin "chr") [.int (c : Int) t]) Q E s :=
  chr_of_range (Int.natCast_nonneg _) (Int.ofNat_le.mpr hc) (h _ _)
theorem find_at {prog : Program} {w : World} {A : Around} {E : Value → Shared → Prop} {s : Shared} {x y : Str} {t u : Tok} {k : Int} {Q : Value → Shared → Prop} (e : (Txt.find x y : Int) = k) (h : ∀ t' tk, Q (.int k t') { s with toks := tk }) : wpAny (model prog w) A (call (.builtin "str.find") [.str x t, .str y u]) Q E s := SC.find (by rw [e]; exact h _ _)
theorem min2 {prog : Program} {w : World} {A : Around} {E : Value → Shared → Prop} {s : Shared} {h₀ : Heap} {L : Addr} {m : Str → Option Value} {news : List (Addr × Obj)} {a b : Int} {t u : Tok} {Q : Value → Shared → Prop} (hh : A.handled = none) (F : Fr h₀ L s.heap m) (N : News h₀ L s.heap news)
    (h : ∀ h' tk t', Fr h₀ L h' m → News h₀ L h' news → Q (.int (if b < a then b else a) t') { s with heap := h', toks := tk }) :
    wpAny (model prog w) A (call (.builtin "min") [.int a t, .int b u]) Q E s := min_two_N hh F N fun h' tk F' N' => h h' tk _ F' N'
theorem max2 {prog : Program} {w : World} {A : Around} {E : Value → Shared → Prop} {s : Shared} {h₀ : Heap} {L : Addr} {m : Str → Option Value} {news : List (Addr × Obj)} {a b : Int} {t u : Tok} {Q : Value → Shared → Prop} (hh : A.handled = none) (F : Fr h₀ L s.heap m) (N : News h₀ L s.heap news)
    (h : ∀ h' tk t', Fr h₀ L h' m → News h₀ L h' news → Q (.int (if b > a then b else a) t') { s with heap := h', toks := tk }) :
    wpAny (model prog w) A (call (.builtin "max") [.int a t, .int b u]) Q E s := max_two_N hh F N fun h' tk F' N' => h h' tk _ F' N'
theorem ev_drop {x : Nat} : ∀ (r : List (Nat × Nat)), (∀ p ∈ r, p.2 ≤ 26) → ∀ m, ev (r.drop m) x ≤ ev r x
  | [], _, m => by simp
  | (f, b) :: r, h, 0 => Nat.le_refl _
  | (f, b) :: r, h, m + 1 => by
    show ev (r.drop m) x ≤ f + (36 - b) * ev r x
    have h1 := ev_drop (x := x) r (fun p hp => h p (.tail _ hp)) m
    have h2 : b ≤ 26 := h (f, b) (.head _)
    have h3 : 1 * ev r x ≤ (36 - b) * ev r x := Nat.mul_le_mul_right _ (Nat.sub_pos_of_lt (Nat.lt_of_le_of_lt h2 (by decide)))
    rw [Nat.one_mul] at h3
    exact Nat.le_trans h1 (Nat.le_trans h3 (Nat.le_add_left _ _))
theorem ggi_pos (b j N : Nat) : ∃ x r, ggi b j N = x :: r := by rw [ggi]; split <;> exact ⟨_, _, rfl⟩
noncomputable def sh (x y : Nat) : Nat := x / 35 ^ y
theorem div35 {prog : Program} {w : World} {A : Around} {E : Value → Shared → Prop} {s : Shared} {x y : Nat} {t u : Tok} {Q : Value → Shared → Prop} (hy : y ≤ 12) (h : ∀ t' tk, Q (.int ((sh x y : Nat) : Int) t') { s with toks := tk }) : wpAny (model prog w) A (binaryOp .FloorDiv (.int (x : Int) t) (.int ((35 : Int) ^ ((y : Int)).toNat) u)) Q E s := by
  have e : ((35 : Int) ^ ((y : Int)).toNat) = ((35 ^ y : Nat) : Int) := by rw [Int.toNat_natCast, Int.natCast_pow]; rfl
  have h0 : 0 < 35 ^ y := Nat.pow_pos (by decide)
  have h1 : 35 ^ y < 2 ^ 63 := Nat.lt_of_le_of_lt (Nat.pow_le_pow_right (by decide) hy) (by decide)
  unfold sh at h
  rw [e]
  generalize 35 ^ y = z at *
  refine floordiv_int (fun h => Nat.ne_of_gt h0 (Int.ofNat_inj.mp h)) (by rw [fdivN]; exact h _ _) (Or.inl (PyProof.noPylong_of_log2 ?_))
  rw [Int.natAbs_natCast]
  exact Nat.lt_trans ((Nat.log2_lt (Nat.ne_of_gt h0)).mpr h1) (by decide)
theorem sh_succ (x y : Nat) : sh x (y + 1) = sh x y / 35 := by unfold sh; rw [Nat.pow_succ, Nat.div_div_eq_div_mul]
theorem sh_small {x y : Nat} (hx : x < 2 ^ 62) (hy : y ≤ 12) (h : 455 < sh x y) : y + 1 ≤ 12 := by
  by_cases e : y = 12
  · subst e
    exact absurd h (Nat.not_lt.mpr (Nat.le_of_lt_succ ((Nat.div_lt_iff_lt_mul (by decide)).mpr (Nat.lt_of_lt_of_le hx (by decide)))))
  · exact Nat.lt_of_le_of_ne hy e
theorem share_end (n y : Nat) : (36 * (y : Int) + 36 + (-1368 : Int).fdiv ((n : Int) + 38)) = ((36 * y + 36 * n / (n + 38) : Nat) : Int) := by
  rw [Int.fdiv_eq_ediv_of_nonneg _ (by omega)]
  have h : ((36 * n / (n + 38) : Nat) : Int) = 36 + (-1368 : Int) / ((n : Int) + 38) := by
    rw [Int.natCast_ediv, show ((36 * n : Nat) : Int) = (-1368 : Int) + 36 * ((n : Int) + 38) by omega, show ((n + 38 : Nat) : Int) = (n : Int) + 38 by omega, Int.add_mul_ediv_right _ _ (by omega)]
    omega
  rw [Int.natCast_add, h]; omega
theorem NatsAre.snoc {vs : List Value} {zs : List Nat} {z : Nat} {t : Tok} (h : NatsAre vs zs) : NatsAre (vs ++ [.int (z : Int) t]) (zs ++ [z]) := by
  refine ⟨by simp [h.1], fun i d hd => ?_⟩
  by_cases hi : i < zs.length
  · rw [List.getElem?_append_left hi] at hd
    obtain ⟨u, hu⟩ := h.2 i d hd
    exact ⟨u, by rw [List.getElem?_append_left (by rw [h.1]; exact hi)]; exact hu⟩
  · have e : i = zs.length := by
      have := (List.getElem?_eq_some_iff.mp hd).1
      simp at this; exact Nat.le_antisymm (Nat.le_of_lt_succ this) (Nat.le_of_not_lt hi)
    subst e
    simp at hd
    subst hd
    exact ⟨t, by rw [← h.1]; simp⟩
theorem Tn_ite (j b : Nat) : (if (if 36 * (j : Int) + 36 - b < 26 then 36 * (j : Int) + 36 - b else 26) > 1 then (if 36 * (j : Int) + 36 - b < 26 then 36 * (j : Int) + 36 - b else 26) else 1) = ((Tn j b : Nat) : Int) := by
  have e : 36 * (j : Int) + 36 - b = 36 * ((j : Int) + 1) - b := by rw [Int.mul_add]; rfl
  by_cases h : 36 * (j : Int) + 36 - b < 26
  · rw [if_pos h]
    by_cases h2 : 36 * (j : Int) + 36 - b > 1
    · rw [if_pos h2]; exact Tn_mid e (Int.le_of_lt h2) (Int.le_of_lt h)
    · rw [if_neg h2]; exact Tn_lo e (Int.not_lt.mp h2)
  · rw [if_neg h, if_pos (by decide)]; exact Tn_hi e (Int.not_lt.mp h)
structure NuSt where
  k : Nat
  b : Nat
  N : Nat
  gv : List Value
  gn : Nat
  R : Addr
  rn : Nat
  tups : List (Addr × Nat × Tok × Nat × Tok)
noncomputable def NuSt.row (c : NuSt) : List (Nat × Nat) := c.tups.map fun x => (x.2.1, x.2.2.2.1)
local macro_rules | `(tactic| walk_at "call builtin:str.find") => `(tactic| (k_here; (refine find_at (find_dig _ (by assumption)) ?_); intro t' tk'))
local macro_rules | `(tactic| walk_at "call builtin:chr") => `(tactic| (k_here; (refine chr_nat (Nat.le_trans (Nat.le_of_lt (dig_lt (by assumption))) (by decide)) ?_); intro t' tk'))
local macro_rules | `(tactic| walk_at "exec For Tuple Subscript cons nil") => `(tactic| (k_here; k_dflt (refine wpAny_For_my ?_)))
local macro_rules | `(tactic| walk_at "subscriptTail Name Slice ref ref") => `(tactic| (refine held ?_))
theorem numbers_spec {prog : Program} {w : World} {A : Around} {s : Shared} {p : Program} {loose : List Str} {mean : ExcName → Option Value} {mg mb : Str → Option Value} {Q E : Value → Shared → Prop}
    (X : (hd.heap_1 w.params).In s.heap) (T : Top p loose mean mg mb s.heap) (hdp : A.depth + 1 < recursionLimit) (hh : A.handled = none) (hu : A.units ≤ 200)
    {size : Nat} {ds : List Nat} {t u : Tok} (hds : ∀ d ∈ ds, d < 2 ^ 60) (hn : ds.length ≤ 1000) (hb : size < 100000)
    (ret : ∀ D vs n h' tk', Kp s.heap h' → s.heap.get? D = none → h'.get? D = some (seqObj "list" vs.toArray n) → NatsAre vs ds → Q (.ref D) { s with heap := h', toks := tk' }) :
    wpAny (model prog w) A (call (.ref 253) [.bytes (digs (giL size 0 72 ds)) t, .int size u]) Q E s := by
  have hlt := giL_lt size ds 0 72 hds
  have hlen := giL_len size ds 0 72 hds
  generalize eL : giL size 0 72 ds = Ls at hlt hlen ⊢
  k_dflt (refine' enter ([(Str.ofString "octets", .bytes (digs Ls) t), (Str.ofString "size", .int size u)]) X T (Ent.self _) ?k1 ?k2 (Nat.lt_of_le_of_lt (Nat.le_add_right _ _) hdp) ?k3 ?k4 ?k5 ?_ ?c1 ?c2 ?c3 ?c4; (case k1 => k_is); (case k2 => k_is); (case k3 => exact BindsTo.of_eq rfl); (case k4 => exact locs rfl); (case k5 => (dsimp only [List.map]; decide)); (case c1 => exact rfl); (case c2 => exact rfl); (case c3 => exact rfl); (case c4 => decide))
  intro L' h' u' tk' F' N'
  (try dsimp only)
  dsimp only [kstB] at F'
  refine wpAny_mono (E := Fa) ?_ (fun _ _ x => x) (fun _ _ x => x.elim)
  k_steps
  rename Fr _ _ _ _ => F2
  rename News _ _ _ _ => N2
  rename _ < _ => lR
  rename Heap => h3
  obtain ⟨G, R0, m3, F3, K3, N3, lR⟩ : ∃ (G R0 : Addr) (m : Str → Option Value), Fr s.heap L' h3 m ∧ Known m ([(Str.ofString "octets", .bytes (digs Ls)), (Str.ofString "size", .int (size : Int)), (Str.ofString "numbers", .val (.ref G)), (Str.ofString "bias", .int ((72 : Nat) : Int)), (Str.ofString "row", .val (.ref R0))]) ∧ News s.heap L' h3 [(G, W.listOf #[] 0), (R0, W.listOf #[] 0)] ∧ @LT.lt Nat _ G R0 :=
    ⟨_, _, _, F2, Known.bytes (by with_unfolding_all rfl) rfl (Known.int (by with_unfolding_all rfl) rfl (Known.val (by with_unfolding_all rfl) rfl (Known.int (by with_unfolding_all rfl) rfl (Known.val (by with_unfolding_all rfl) rfl Known.nil)))), fun p hp => N2 p (by simpa [or_comm] using hp), lR⟩
  refine bytesA (L := L') hh (by rfl) (by rfl) (fun c : NuSt => (G, W.listOf c.gv.toArray c.gn) :: (c.R, W.listOf (c.tups.map fun x => Value.ref x.1).toArray c.rn) :: c.tups.map fun x => (x.1, pairObj x.2))
    (fun c => [(Str.ofString "octets", .bytes (digs Ls)), (Str.ofString "size", .int (size : Int)), (Str.ofString "numbers", .val (.ref G)), (Str.ofString "bias", .int (c.b : Int)), (Str.ofString "row", .val (.ref c.R))])
    (fun i c => NatsAre c.gv (ds.take c.k) ∧ c.k ≤ ds.length ∧ Ls.drop i = Rest size c.b c.k c.tups.length c.N (ds.drop c.k) ∧ Now c.row c.N (ds.drop c.k) ∧ c.b = biasL size 0 72 (ds.take c.k) ∧ c.tups.length ≤ i ∧ @LT.lt Nat _ G c.R ∧ (∀ x ∈ c.tups, x.1 ≠ G ∧ x.1 ≠ c.R) ∧ (∀ x ∈ c.tups, x.2.2.2.1 ≤ 26))
    ⟨0, 72, ds.headD 0, [], 0, R0, 0, []⟩ rfl F3 N3 K3 ?hp ?turn ?done
  case hp => exact ⟨⟨rfl, fun i c h => by simp at h⟩, Nat.zero_le _, eL ▸ rest_start size 72 0 ds, now_start ds, rfl, Nat.le_refl _, lR, (fun _ h => nomatch h), fun _ h => nomatch h⟩
  case done =>
    rintro ⟨k, b, N, gv, gn, R, rn, tups⟩ m τ h tk ⟨h1, h2, h3, h4, h5, h6, h7, h8, h9⟩ F' N'
    dsimp only [nm, V0.mk] at F'
    dsimp only at N' h1 h2 h3 h4 h5 h6 h7 h8 h9 ⊢
    have hd0 : ds.drop k = [] := by
      rw [List.drop_of_length_le (by rw [digs_size]; exact Nat.le_refl _)] at h3
      cases e : ds.drop k with
      | nil => rfl
      | cons d r =>
        rw [e] at h3
        obtain ⟨x, r', e'⟩ := ggi_pos b tups.length N
        simp [Rest, e'] at h3
    rw [hd0] at h4
    have ht0 : tups = [] := by simpa [Now, NuSt.row] using h4
    subst ht0
    have hk : ds.take k = ds := List.take_of_length_le (by simpa using hd0)
    rw [hk] at h1
    simp only [List.map_nil] at N'
    k_steps
    rename News _ _ _ _ => N9
    exact ret G gv gn _ _ (Fr.keep (by assumption)) (News.fresh (a := G) (o := W.listOf gv.toArray gn) N9 (by k_mem)) (News.get (a := G) (o := W.listOf gv.toArray gn) N9 (by k_mem)) h1
  case turn =>
    rintro i ⟨k, b, N, gv, gn, R, rn, tups⟩ oc t1 own u τ h tk hi ⟨h1, h2, h3, h4, h5, h6, h7, h8, h9⟩ off F' N'
    dsimp only [nm, V0.mk] at F'
    dsimp only at N' h1 h2 h3 h4 h5 h6 h7 h8 h9 off ⊢
    simp only [List.cons_append, List.map_cons] at N' off
    have hi' : i < Ls.length := by have := (Array.getElem?_eq_some_iff.mp hi).1; simpa [digs_size] using this
    obtain ⟨fg, hfg⟩ : ∃ fg, Ls[i]? = some fg := ⟨Ls[i], by simp [hi']⟩
    have h36 : fg < 36 := hlt _ (List.mem_of_getElem? hfg)
    have hoc : oc.toNat = dig fg := by
      have e : (digs Ls)[i]? = some (dig fg).toUInt8 := by simp [digs, hfg]
      rw [hi] at e; cases e
      rw [Nat.toUInt8_eq, UInt8.toNat_ofNat', Nat.mod_eq_of_lt (Nat.lt_of_lt_of_le (dig_lt h36) (by decide))]
    rw [hoc] at F'
    have hdrop : Ls.drop i = fg :: Ls.drop (i + 1) := by
      rw [List.drop_eq_getElem_cons hi']; congr 1
      have : Ls[i]? = some Ls[i] := by simp [hi']
      rw [this] at hfg; exact Option.some.inj hfg
    rw [hdrop] at h3
    cases hdk : ds.drop k with
    | nil => rw [hdk] at h3; simp [Rest] at h3
    | cons d r =>
    rw [hdk] at h3 h4
    simp only [Rest, Now] at h3 h4
    have off2 : OwnOff (List.map (fun x => (x.1, pairObj x.2)) tups ++ own) [G, R] := fun p hp b hb => by
      rcases List.mem_append.mp hp with hp | hp
      · obtain ⟨x, hx, rfl⟩ := List.mem_map.mp hp
        rcases List.mem_cons.mp hb with rfl | hb
        · exact (h8 x hx).1
        · rw [List.mem_singleton.mp hb]; exact (h8 x hx).2
      · exact off p hp b (by rcases List.mem_cons.mp hb with rfl | hb; exact .head _; rw [List.mem_singleton.mp hb]; exact .tail _ (.head _))
    generalize htl : List.map (fun x => (x.1, pairObj x.2)) tups ++ own = tl at N' off2
    k_steps
    have hil : tups.length < 61001 := Nat.lt_of_le_of_lt h6 (Nat.lt_of_lt_of_le hi' (Nat.le_trans hlen (Nat.le_trans (Nat.mul_le_mul_left _ hn) (by decide))))
    refine len_made (k := tups.length) (News.get (by assumption) (.tail _ (.head _))) (by simp) (Nat.le_of_lt (Nat.lt_trans hil (by decide))) ?_
    k_steps
    rename Fr _ _ _ _ => F4
    rename News _ _ _ _ => N4
    refine min2 hh F4 N4 fun hq5 tk5 tq5 F5 N5 => ?_
    clear F4 N4
    k_steps
    rename Fr _ _ _ _ => F6
    rename News _ _ _ _ => N6
    refine max2 hh F6 N6 fun hq7 tk7 tT F7 N7 => ?_
    clear F6 N6
    have hT : (if (if 36 * (tups.length : Int) + 36 - b < 26 then 36 * (tups.length : Int) + 36 - b else 26) > 1 then (if 36 * (tups.length : Int) + 36 - b < 26 then 36 * (tups.length : Int) + 36 - b else 26) else 1) = ((Tn tups.length b : Nat) : Int) := Tn_ite _ _
    rw [hT]
    clear hT
    have hTb := Tn_bounds tups.length b
    rw [ggi] at h3
    generalize Tn tups.length b = Tt at *
    k_steps
    · k_dflt (refine' krv_lit ?qF ?qN ?ql ?qk rfl ?_ ?qs ?qt ?qz; (case qF => k_asm); (case qN => k_asm); (case ql => exact ⟨_, News.get (by assumption) (by k_mem), rfl, _, rfl⟩); (case qk => exact IsPart.int _ _); (case qs => with_unfolding_all rfl); (case qt => kmk_pure); (case qz => (rw [sizeLine_eq]; simp; exact Nat.le_of_lt (Nat.lt_trans hil (by decide)))))
      intro Dr hr Fr' Nr lr
      k_steps
      rename (fg : Int) < _ => hfl
      rename Fr _ _ _ _ => F8
      rename News _ _ _ _ => N8
      rename G < _ ∧ _ => lD
      rename Heap => hc
      rename Addr => Rv
      obtain ⟨D, tf, N9, lD⟩ : ∃ D tf, News s.heap L' hc ((Rv, W.listOf ((tups ++ [(D, fg, tf, Tt, tT)]).reverse.map fun x => Value.ref x.1).toArray 0) :: (D, pairObj (fg, tf, Tt, tT)) :: (G, W.listOf gv.toArray gn) :: (R, W.listOf ((tups ++ [(D, fg, tf, Tt, tT)]).map fun x => Value.ref x.1).toArray (rn + 1)) :: tl) ∧ (G < D ∧ R < D ∧ AllLt D tl) := ⟨_, _, by
        intro p hp
        refine N8 p ?_
        simpa [W.listOf, List.map_reverse, pairObj] using hp, lD⟩
      clear N8
      have hN : N < Tt := Classical.byContradiction fun hN => by
        rw [if_neg hN] at h3
        simp only [List.cons_append, List.cons.injEq] at h3
        exact Nat.not_lt.mpr (Nat.le_add_right Tt _) (h3.1 ▸ Int.ofNat_lt.mp hfl)
      rw [if_pos hN] at h3
      simp only [List.cons_append, List.cons.injEq, List.nil_append] at h3
      obtain ⟨rfl, h3⟩ := h3
      generalize ht9 : tups ++ [(D, fg, tf, Tt, tT)] = tus at N9
      have hevd : ev (tus.map fun x => (x.2.1, x.2.2.2.1)) 0 = d := by
        rw [← ht9, List.map_append]
        show ev (_ ++ [(fg, Tt)]) 0 = d
        rw [ev_snoc, Nat.mul_zero, Nat.add_zero]; exact h4
      have htus : ∀ x ∈ tus, x.2.2.2.1 ≤ 26 := fun x hx => by
        rw [← ht9] at hx
        rcases List.mem_append.mp hx with hx | hx
        · exact h9 x hx
        · rw [List.mem_singleton.mp hx]; exact hTb.2
      have hd60 : d < 2 ^ 60 := hds d (List.mem_of_mem_drop (hdk ▸ List.mem_cons_self ..))
      refine pairsA (L := L') (ts := tus.reverse.map fun x => (x.1, Value.int (x.2.1 : Int) x.2.2.1, Value.int (x.2.2.2.1 : Int) x.2.2.2.2)) hh (by rfl) (by rfl) (by rfl) ?hl1 ?ht1
        (fun _ : Nat => (Rv, W.listOf (tus.reverse.map fun x => Value.ref x.1).toArray 0) :: (D, pairObj (fg, tf, Tt, tT)) :: (G, W.listOf gv.toArray gn) :: (R, W.listOf (tus.map fun x => Value.ref x.1).toArray (rn + 1)) :: tl) ?hfp
        (fun c : Nat => [(Str.ofString "octets", .bytes (digs Ls)), (Str.ofString "size", .int (size : Int)), (Str.ofString "numbers", .val (.ref G)), (Str.ofString "number", .int (c : Int)), (Str.ofString "row", .val (.ref R))])
        (fun j c => c = ev ((tus.map fun x => (x.2.1, x.2.2.2.1)).drop (tus.length - j)) 0) 0 rfl F8 N9 ?hkA ?hpA ?turnA ?doneA
      case hl1 => rw [List.map_map]; exact ⟨W.listOf (tus.reverse.map fun x => Value.ref x.1).toArray 0, News.get N9 (.head _), rfl, 0, rfl⟩
      case ht1 =>
        intro x hx
        obtain ⟨y, hy, rfl⟩ := List.mem_map.mp hx
        have hm : (y.1, pairObj y.2) ∈ (D, pairObj (fg, tf, Tt, tT)) :: tl := by
          rw [← ht9, List.mem_reverse] at hy
          rcases List.mem_append.mp hy with hy | hy
          · rw [← htl]; exact .tail _ (List.mem_append_left _ (List.mem_map.mpr ⟨y, hy, rfl⟩))
          · rw [List.mem_singleton.mp hy]; exact .head _
        refine ⟨_, News.get (o := pairObj y.2) N9 ?_, rfl, _, rfl⟩
        rcases List.mem_cons.mp hm with h | h
        · rw [h]; exact .tail _ (.head _)
        · exact .tail _ (.tail _ (.tail _ (.tail _ h)))
      case hfp =>
        intro b2 hb2
        right
        rcases List.mem_cons.mp hb2 with e2 | hb2
        · exact ⟨W.listOf (tus.reverse.map fun x => Value.ref x.1).toArray 0, fun _ => by rw [e2]; exact .head _⟩
        obtain ⟨x, hx, rfl⟩ := List.mem_map.mp hb2
        obtain ⟨y, hy, rfl⟩ := List.mem_map.mp hx
        have hm : (y.1, pairObj y.2) ∈ (D, pairObj (fg, tf, Tt, tT)) :: tl := by
          rw [← ht9, List.mem_reverse] at hy
          rcases List.mem_append.mp hy with hy | hy
          · rw [← htl]; exact .tail _ (List.mem_append_left _ (List.mem_map.mpr ⟨y, hy, rfl⟩))
          · rw [List.mem_singleton.mp hy]; exact .head _
        refine ⟨pairObj y.2, fun _ => ?_⟩
        rcases List.mem_cons.mp hm with h | h
        · rw [h]; exact .tail _ (.head _)
        · exact .tail _ (.tail _ (.tail _ (.tail _ h)))
      case hkA => exact Known.bytes (by with_unfolding_all rfl) rfl (Known.int (by with_unfolding_all rfl) rfl (Known.val (by with_unfolding_all rfl) rfl (Known.int (by with_unfolding_all rfl) rfl (Known.val (by with_unfolding_all rfl) rfl Known.nil))))
      case hpA => rw [Nat.sub_zero, List.drop_of_length_le (by simp)]; rfl
      case turnA =>
        rintro j c T v1 v2 own2 u2 τ2 h2' tk2 hj hc off3 F' N'
        dsimp only [nm, V0.mk] at F'
        dsimp only at N' hc ⊢
        rw [List.getElem?_map] at hj
        cases hj2 : tus.reverse[j]? with
        | none => rw [hj2] at hj; simp at hj
        | some y =>
        rw [hj2] at hj
        simp only [Option.map_some, Option.some.injEq, Prod.mk.injEq] at hj
        obtain ⟨rfl, rfl, rfl⟩ := hj
        have hjl : j < tus.length := by have := (List.getElem?_eq_some_iff.mp hj2).1; simpa using this
        have hy : tus[tus.length - (j + 1)]? = some y := by
          rw [List.getElem?_reverse hjl] at hj2; rw [← hj2, Nat.sub_sub, Nat.add_comm 1 j]
        have hdr : (tus.map fun x => (x.2.1, x.2.2.2.1)).drop (tus.length - (j + 1)) = (y.2.1, y.2.2.2.1) :: (tus.map fun x => (x.2.1, x.2.2.2.1)).drop (tus.length - j) := by
          have h := List.drop_eq_getElem_cons (l := tus.map fun x => (x.2.1, x.2.2.2.1)) (i := tus.length - (j + 1)) (by rw [List.length_map]; exact Nat.sub_lt (Nat.zero_lt_of_lt hjl) (Nat.succ_pos j))
          rw [h, show tus.length - (j + 1) + 1 = tus.length - j by rw [← Nat.sub_sub, Nat.sub_add_cancel (Nat.sub_pos_of_lt hjl)]]
          congr 1
          rw [List.getElem_map]
          have h3 := (List.getElem?_eq_some_iff.mp hy).2
          rw [h3]
        have hbd : y.2.2.2.1 ≤ 26 := htus y (List.mem_of_getElem? hy)
        have hle := ev_drop (x := 0) (tus.map fun x => (x.2.1, x.2.2.2.1)) (fun p hp => by obtain ⟨x, hx, rfl⟩ := List.mem_map.mp hp; exact htus x hx) (tus.length - (j + 1))
        rw [hevd, hdr] at hle
        simp only [ev] at hle
        rw [← hc] at hle
        have hle2 := ev_drop (x := 0) (tus.map fun x => (x.2.1, x.2.2.2.1)) (fun p hp => by obtain ⟨x, hx, rfl⟩ := List.mem_map.mp hp; exact htus x hx) (tus.length - j)
        rw [hevd, ← hc] at hle2
        k_steps
        refine End.intro (y.2.1 + (36 - y.2.2.2.1) * c) (by assumption) (by assumption) (fun p hp => hp) ?hkB ⟨?_, off3⟩
        case hkB => exact Known.bytes (by with_unfolding_all rfl) rfl (Known.int (by with_unfolding_all rfl) rfl (Known.val (by with_unfolding_all rfl) rfl (Known.int (by with_unfolding_all rfl) (by rw [Int.natCast_add, Int.natCast_mul, Int.ofNat_sub (Nat.le_trans hbd (by decide))]; rfl) (Known.val (by with_unfolding_all rfl) rfl Known.nil))))
        rw [hdr, ev, ← hc]
      case doneA =>
        rintro c m9 τ9 h9' tk9 hc F' N'
        dsimp only [nm, V0.mk] at F'
        dsimp only at N' hc ⊢
        rw [List.length_map, List.length_reverse, Nat.sub_self, List.drop_zero, hevd] at hc
        rw [hc] at F'
        clear hc
        have hgl : gv.length = k := by have := h1.1; rw [List.length_take, Nat.min_eq_left h2] at this; exact this
        have hkd : k < ds.length := by
          have : (ds.drop k).length = ds.length - k := List.length_drop
          rw [hdk, List.length_cons] at this; exact Nat.lt_of_sub_pos (this ▸ Nat.succ_pos _)
        have N10 : News s.heap L' h9' ((G, W.listOf gv.toArray gn) :: tl) := fun p hp => N' p (by
          rcases List.mem_cons.mp hp with h | h
          · rw [h]; exact .tail _ (.tail _ (.head _))
          · exact .tail _ (.tail _ (.tail _ (.tail _ h))))
        have off4 : OwnOff tl [G] := fun p hp b hb => off2 p hp b (by rw [List.mem_singleton.mp hb]; exact .head _)
        clear N' N9 F8
        refine execs_at 4 (End s.heap L' s (fun x : Tok × Nat => (G, W.listOf (gv ++ [Value.int (d : Int) x.1]).toArray (gn + 1)) :: tl)
          (fun x => [(Str.ofString "octets", .bytes (digs Ls)), (Str.ofString "size", .int (size : Int)), (Str.ofString "numbers", .val (.ref G)), (Str.ofString "share", .int (x.2 : Int)), (Str.ofString "turns", .int ((0 : Nat) : Int))]) (fun x => adaptN d (k == 0) (size + k + 1) = adaptL x.2 0 ∧ x.2 < 2 ^ 62)) ?part1 ?part2
        case part1 =>
          dsimp only [List.take]
          k_steps
          have hk40 : k + 1 ≤ 2 ^ 40 := Nat.le_trans hkd (Nat.le_trans hn (by decide))
          have hna : ((size : Int) + ((k + 1 : Nat) : Int)).natAbs < 1073741824 := Nat.lt_of_lt_of_le (Nat.add_lt_add_of_lt_of_le hb (Nat.le_trans hkd hn)) (by decide)
          have hcs : (size : Int) + ((k + 1 : Nat) : Int) = ((size + k + 1 : Nat) : Int) := (Int.natCast_add size (k + 1)).symm
          refine len_made (k := k + 1) (News.get (by assumption) (.head _)) (by simp [hgl]) hk40 ?_
          k_steps
          all_goals refine len_made (k := k + 1) (News.get (by assumption) (.head _)) (by simp [hgl]) hk40 ?_
          all_goals k_steps
          · rename (_ : Int) = 1 => hk1
            have hk0 : k = 0 := Nat.succ.inj (Int.ofNat_inj.mp hk1)
            dsimp only
            rename News _ _ _ _ => N91
            (try simp only [List.push_toArray] at N91)
            refine End.intro (_, d / 700 + d / 700 / (size + k + 1)) (by assumption) (by assumption) (fun p hp => hp) (Known.bytes (by with_unfolding_all rfl) rfl (Known.int (by with_unfolding_all rfl) rfl (Known.val (by with_unfolding_all rfl) rfl (Known.int (by with_unfolding_all rfl) ?_ (Known.int (by with_unfolding_all rfl) rfl Known.nil))))) ⟨?_, ?_⟩
            · rw [show (700 : Int) = ((700 : Nat) : Int) from rfl, fdivN, hcs, fdivN]; rfl
            · rw [hk0]; rfl
            · exact lt62 (div_lt_of hd60) (div_lt_of (div_lt_of hd60))
          · rename (_ : Int) ≠ 1 => hk1
            have hk0 : k ≠ 0 := fun h => hk1 (by rw [h]; rfl)
            dsimp only
            rename News _ _ _ _ => N91
            (try simp only [List.push_toArray] at N91)
            refine End.intro (_, d / 2 + d / 2 / (size + k + 1)) (by assumption) (by assumption) (fun p hp => hp) (Known.bytes (by with_unfolding_all rfl) rfl (Known.int (by with_unfolding_all rfl) rfl (Known.val (by with_unfolding_all rfl) rfl (Known.int (by with_unfolding_all rfl) ?_ (Known.int (by with_unfolding_all rfl) rfl Known.nil))))) ⟨?_, ?_⟩
            · rw [show (2 : Int) = ((2 : Nat) : Int) from rfl, fdivN, hcs, fdivN]; rfl
            · rw [beq_eq_false_iff_ne.mpr hk0]; rfl
            · exact lt62 (div_lt_of hd60) (div_lt_of (div_lt_of hd60))
        case part2 =>
          rintro _ ⟨⟨td, x⟩, h, tk, m, news, rfl, F, N, hl, hk, hx, hx2⟩
          obtain ⟨τ, F⟩ := Fr.canon F hk
          have N := (fun p hp => N p (hl p hp) : News s.heap L' h _)
          clear hl hk
          dsimp only [List.drop] at hx hx2 N ⊢
          refine wpAny_execs_cons (While_my (fun _ => (G, W.listOf (gv ++ [Value.int (d : Int) td]).toArray (gn + 1)) :: tl) (fun y : Nat => [(Str.ofString "octets", .bytes (digs Ls)), (Str.ofString "size", .int (size : Int)), (Str.ofString "numbers", .val (.ref G)), (Str.ofString "share", .int (x : Int)), (Str.ofString "turns", .int (y : Int))]) (fun y => adaptN d (k == 0) (size + k + 1) = adaptL (sh x y) (36 * y) ∧ y ≤ 12) (fun y => sh x y) 0 F N ?hkC ?hpC ?turnC)
          case hkC => exact Known.bytes (by with_unfolding_all rfl) rfl (Known.int (by with_unfolding_all rfl) rfl (Known.val (by with_unfolding_all rfl) rfl (Known.int (by with_unfolding_all rfl) rfl (Known.int (by with_unfolding_all rfl) rfl Known.nil))))
          case hpC => exact ⟨by simpa [sh] using hx, Nat.zero_le _⟩
          case turnC =>
            rintro y u9 τ h tk ⟨hy1, hy2⟩ F' N'
            dsimp only [nm, V0.mk] at F'
            dsimp only at N' ⊢
            k_steps
            refine div35 hy2 fun t4 tk4 => ?_
            k_steps
            · rename 455 < _ => hgt
              refine End.intro (y + 1) (by assumption) (by assumption) (fun p hp => hp) ?hkD ⟨⟨?_, sh_small hx2 hy2 (Int.ofNat_lt.mp hgt)⟩, ?_⟩
              case hkD => exact Known.bytes (by with_unfolding_all rfl) rfl (Known.int (by with_unfolding_all rfl) rfl (Known.val (by with_unfolding_all rfl) rfl (Known.int (by with_unfolding_all rfl) rfl (Known.int (by with_unfolding_all rfl) rfl Known.nil))))
              · rw [hy1, adaptL, if_pos (Int.ofNat_lt.mp hgt), sh_succ]; rfl
              · rw [sh_succ]; exact Nat.div_lt_self (Nat.zero_lt_of_lt (Int.ofNat_lt.mp hgt)) (by decide)
            · refine div35 hy2 fun t4 tk4 => ?_
              k_steps
              rename ¬ 455 < _ => hgt
              rename G < _ ∧ _ => lR2
              rename News _ _ _ _ => N12
              rename Heap => hc2
              rename Fr _ _ _ _ => F12
              obtain ⟨R2, m13, F13, K13, N13, lR2⟩ : ∃ R2 m13, Fr s.heap L' hc2 m13 ∧ Known m13 ([(Str.ofString "octets", .bytes (digs Ls)), (Str.ofString "size", .int (size : Int)), (Str.ofString "numbers", .val (.ref G)), (Str.ofString "bias", .int ((adaptN d (k == 0) (size + k + 1) : Nat) : Int)), (Str.ofString "row", .val (.ref R2))]) ∧ News s.heap L' hc2 ((R2, W.listOf #[] 0) :: (G, W.listOf (gv ++ [Value.int (d : Int) td]).toArray (gn + 1)) :: tl) ∧ (G < R2 ∧ AllLt R2 tl) := ⟨_, _, F12, Known.bytes (by with_unfolding_all rfl) rfl (Known.int (by with_unfolding_all rfl) rfl (Known.val (by with_unfolding_all rfl) rfl (Known.int (by with_unfolding_all rfl) (by rw [share_end, hy1, adaptL, if_neg fun h => hgt (Int.ofNat_lt.mpr h)]) (Known.val (by with_unfolding_all rfl) rfl Known.nil)))), N12, lR2⟩
              have lown := allLt_mem lR2.2
              rw [← htl] at lown
              have hdk2 : ds.drop (k + 1) = r := by rw [← List.drop_drop, hdk]; rfl
              have htk2 : ds.take (k + 1) = ds.take k ++ [d] := by
                rw [List.take_add_one]
                have : ds[k]? = some d := by rw [← List.head?_drop, hdk]; rfl
                rw [this]; rfl
              refine End.intro (⟨k + 1, adaptN d (k == 0) (size + k + 1), r.headD 0, gv ++ [Value.int (d : Int) td], gn + 1, R2, 0, []⟩ : NuSt) F13 N13 ?hlE ?hkE ?hpE
              case hlE =>
                intro p hp
                rw [← htl]
                simp only [List.map_nil, List.nil_append, List.mem_append, List.mem_cons, List.not_mem_nil, or_false] at hp ⊢
                rcases hp with h | h | h
                · exact .inr (.inl h)
                · exact .inl h
                · exact .inr (.inr (.inr h))
              case hkE => exact K13
              case hpE =>
                refine ⟨⟨?_, hkd, ?_, ?_, ?_, Nat.zero_le _, lR2.1, (fun _ h => nomatch h), fun _ h => nomatch h⟩, ?_⟩
                · rw [htk2]; exact h1.snoc
                · rw [hdk2, h3]; exact rest_start ..
                · rw [hdk2]; exact now_start r
                · show adaptN d (k == 0) (size + k + 1) = _
                  rw [htk2, biasL_app, List.length_take, Nat.min_eq_left h2, Nat.zero_add]
                · intro p hp b hb
                  simp only [List.map_nil, List.map_cons, List.mem_cons, List.not_mem_nil, or_false] at hb
                  rcases hb with rfl | rfl
                  · exact off p hp _ (.head _)
                  · exact Nat.ne_of_lt (lown p (List.mem_append_right _ hp))
    · rename ¬ (fg : Int) < _ => hfl
      rename Fr _ _ _ _ => F8
      rename News _ _ _ _ => N8
      rename G < _ ∧ _ => lD
      rename Heap => hc
      obtain ⟨D, tf, N9, lD⟩ : ∃ D tf, News s.heap L' hc ((D, pairObj (fg, tf, Tt, tT)) :: (G, W.listOf gv.toArray gn) :: (R, W.listOf ((List.map (fun x => Value.ref x.1) tups).toArray.push (.ref D)) (rn + 1)) :: tl) ∧ (G < D ∧ R < D ∧ AllLt D tl) := ⟨_, _, N8, lD⟩
      have hN : ¬ N < Tt := fun hN => by
        rw [if_pos hN] at h3
        simp only [List.cons_append, List.cons.injEq] at h3
        exact hfl (h3.1 ▸ Int.ofNat_lt.mpr hN)
      rw [if_neg hN] at h3
      simp only [List.cons_append, List.cons.injEq] at h3
      have hev : fg + (36 - Tt) * ((N - Tt) / (36 - Tt)) = N := by
        rw [h3.1, Nat.add_assoc, Nat.mod_add_div, Nat.add_sub_cancel' (Nat.le_of_not_lt hN)]
      have lD2 := allLt_mem lD.2.2
      rw [← htl] at lD2
      refine End.intro (⟨k, b, (N - Tt) / (36 - Tt), gv, gn, R, rn + 1, tups ++ [(D, fg, tf, Tt, tT)]⟩ : NuSt) F8 N9 ?hl ?hk ?hp
      case hl =>
        intro p hp
        rw [← htl]
        simp only [List.map_append, List.map_cons, List.map_nil, List.mem_append, List.mem_cons, List.not_mem_nil, or_false, List.push_toArray] at hp ⊢
        rcases hp with h | h | (h | h) | h
        · exact .inr (.inl h)
        · exact .inr (.inr (.inl h))
        · exact .inr (.inr (.inr (.inl h)))
        · exact .inl h
        · exact .inr (.inr (.inr (.inr h)))
      case hk => exact Known.bytes (by with_unfolding_all rfl) rfl (Known.int (by with_unfolding_all rfl) rfl (Known.val (by with_unfolding_all rfl) rfl (Known.int (by with_unfolding_all rfl) rfl (Known.val (by with_unfolding_all rfl) rfl Known.nil))))
      case hp =>
        refine ⟨⟨h1, h2, ?_, ?_, h5, by rw [List.length_append]; exact Nat.succ_le_succ h6, h7, ?_, ?_⟩, ?_⟩
        · rw [hdk]; simp only [Rest, List.length_append, List.length_cons, List.length_nil]; exact h3.2
        · rw [hdk]
          show ev (NuSt.row _) _ = d
          simp only [NuSt.row, List.map_append, List.map_cons, List.map_nil] at h4 ⊢
          rw [ev_snoc, hev]; exact h4
        · intro x hx
          rcases List.mem_append.mp hx with hx | hx
          · exact h8 x hx
          · rw [List.mem_singleton.mp hx]; exact ⟨(Nat.ne_of_lt lD.1).symm, (Nat.ne_of_lt lD.2.1).symm⟩
        · intro x hx
          rcases List.mem_append.mp hx with hx | hx
          · exact h9 x hx
          · rw [List.mem_singleton.mp hx]; exact hTb.2
        · intro p hp b hb
          simp only [List.map_append, List.map_cons, List.map_nil, List.mem_append, List.mem_cons, List.not_mem_nil, or_false, List.map_map] at hb off
          rcases hb with rfl | rfl | hb | rfl
          · exact off p hp _ (.head _)
          · exact off p hp _ (.tail _ (.head _))
          · exact off p hp _ (.tail _ (.tail _ hb))
          · exact Nat.ne_of_lt (lD2 p (List.mem_append_right _ hp))
end Mine
end
section
theorem Mine.anewSh : True := by w_top off; trivial
namespace Mine
local macro_rules | `(tactic| walk_at "binaryOp Add str str") => `(tactic| (refine held ?_))
open LCg (NsObj lst)
section
variable {prog : Program} {w : World} {A : Around} {E : Value → Shared → Prop} {s : Shared} {env : Env} {h₀ : Heap} {L : Addr} {m : Str → Option Value} {σ : Type}
theorem comp_coreU {y : Str} {py : Pos} (hLe : env.locals = L) (hy : env.kindOf y = some .local) (hpp : (env.scope.kind == .class || (env.scope.kind == .module && env.locals != env.globals)) = false) {elt iter : Expr} {x : Str} {px : Pos} {ifs : List Expr} {scope : Scope} {cl : List (Str × Addr)} {pos : Pos} {I : Addr} {fp : List Addr} {n : Nat} {Pv : Nat → Value → Prop} {St : Nat → Heap → Prop} {Q : Flow → Shared → Prop} {news : List (Addr × Obj)}
    (W : Walks prog w A I fp [I] n Pv St) (hsz : n ≤ sizeLine) (hIo : ∀ i h, St i h → ∃ o, h.get? I = some o ∧ o.cls ≠ .type "tuple")
    (hcell : ∀ y ∈ scope.names, y.2 ≠ .cell) (hkind : scope.kind = .function) (hx : scope.names.lookup x = some .local) (hst : St 0 s.heap) (hIlt : I < s.heap.objs.size) (hfp : ∀ b ∈ fp, b = I ∨ (∃ o, h₀.get? b = some o) ∨ ∃ o, (b, o) ∈ news)
    (F : Fr h₀ L s.heap m) (N : News h₀ L s.heap news) (hIL : L ≠ I) (hI₀ : h₀.get? I = none) (off : ∀ p ∈ news, p.1 ≠ I)
    (Tps : σ → List (Addr × Obj)) (hT : ∀ c, ∀ p ∈ Tps c, p.2.cls = .type "tuple" ∧ ∃ its k, p.2.data = .seq its k) (ys : σ → List Value) (P : Nat → σ → Prop) (c₀ : σ) (hT0 : Tps c₀ = []) (hy0 : ys c₀ = []) (hp0 : P 0 c₀) (hlen : ∀ i c, P i c → (ys c).length ≤ i)
    (turn : ∀ i (c : σ) v C oC D oI m₂ h tk, Pv i v → P i c → NsObj oC m₂ → m₂ x = some v → Fr h₀ L h m → News h₀ L h ((C, oC) :: (D, lst (ys c)) :: (I, oI) :: (Tps c ++ news)) →
      wpAny (model prog w) A (forIn ifs true fun c r => if r = true then do let ok ← isTrue c (compEnvC scope cl C env) (eval c (compEnvC scope cl C env)); pure (ForInStep.yield ok) else pure (ForInStep.yield r))
        (CTurn prog w A h₀ L m s env (compEnvC scope cl C env) elt [(C, oC), (D, lst (ys c)), (I, oI)] news Tps (fun c' y => ys c' = ys c ++ [y] ∧ P (i + 1) c') (fun c' => ys c' = ys c ∧ P (i + 1) c')) Fa { s with heap := h, toks := tk })
    (done : ∀ c D h tk, P n c → Fr h₀ L h (fun z => if z = y then some (.ref D) else m z) → News h₀ L h ((D, lst (ys c)) :: (Tps c ++ news)) → Q .next { s with heap := h, toks := tk }) :
    wpAny (model prog w) A (newList []) (fun acc s₃ => wpAny (model prog w) A (newFunctionEnv scope env.globals cl [] env.qual none .none (some env)) (fun cenv s₄ =>
      codeAny (model prog w) A (.compStart (.ListComp elt [⟨.Name x px, iter, ifs, 0⟩] scope pos) 0 (.ref I) acc { cenv with scope := relabel scope env }) (compPost (model prog w) A E (some (assign (.Name y py) env)) (fun _ s' => Q .next s') acc cenv.locals) s₄) E s₃) E s := by
  refine wpAny_newObj_type (wpAny_newFunctionEnv hcell (by intro y hy; simp at hy) (fun h₁ hns₁ hsb₁ => ?_) hkind)
  dsimp only at hns₁ hsb₁ ⊢
  generalize hH2 : s.heap.push { cls := .type "list", dict := none, data := .seq ([] : List Value).toArray } = H2 at hns₁ hsb₁ ⊢
  have hC : H2.objs.size = s.heap.objs.size + 1 := by rw [← hH2, Heap.size_push]
  have hDC : s.heap.objs.size ≠ H2.objs.size := by rw [hC]; exact Nat.ne_of_lt (Nat.lt_succ_self _)
  have below : ∀ b, b < s.heap.objs.size → b ≠ H2.objs.size ∧ b ≠ s.heap.objs.size := fun b hb => ⟨by rw [hC]; exact Nat.ne_of_lt (Nat.lt_succ_of_lt hb), Nat.ne_of_lt hb⟩
  have old : ∀ b o, s.heap.get? b = some o → h₁.get? b = some o := fun b o e => hsb₁.extBut b o (below b (Heap.lt_size e)).1 (Heap.get?_push_of_some _ (hH2 ▸ Heap.get?_push_of_some _ e))
  have hacc : h₁.get? s.heap.objs.size = some (lst []) := hsb₁.extBut _ _ hDC (Heap.get?_push_of_some _ (hH2 ▸ Heap.get?_push_size _ rfl))
  have hst₁ : St 0 h₁ := W.frame _ _ _ hst fun b _ o e => old b o e
  have fresh₀ : ∀ a, s.heap.objs.size ≤ a → h₀.get? a = none := fun a ha => by
    cases e : h₀.get? a with
    | none => rfl
    | some o' => exact absurd (Heap.lt_size (F.keep a o' e)) (Nat.not_lt.mpr ha)
  have hD₀ : h₀.get? s.heap.objs.size = none := fresh₀ _ (Nat.le_refl _)
  have hC₀ : h₀.get? H2.objs.size = none := fresh₀ _ (by rw [hC]; exact Nat.le_succ _)
  have hLlt : L < s.heap.objs.size := F.ns.lt
  have hDL : s.heap.objs.size ≠ L := Ne.symm (below L hLlt).2
  have hCL : H2.objs.size ≠ L := Ne.symm (below L hLlt).1
  have hCI : I ≠ H2.objs.size := (below I hIlt).1
  have hDI : I ≠ s.heap.objs.size := (below I hIlt).2
  have offN : ∀ p ∈ news, p.1 ≠ I ∧ p.1 ≠ H2.objs.size ∧ p.1 ≠ s.heap.objs.size := fun p hp => ⟨off p hp, (below _ (Heap.lt_size (N p hp).1)).1, (below _ (Heap.lt_size (N p hp).1)).2⟩
  have hLf : ∀ b ∈ fp, b ≠ H2.objs.size ∧ b ≠ s.heap.objs.size := fun b hb => by
    rcases hfp b hb with e | ⟨o, e⟩ | ⟨o, e⟩
    · rw [e]; exact ⟨hCI, hDI⟩
    · exact below b (Heap.lt_size (F.keep _ _ e))
    · exact (offN _ e).2
  have loop : ∀ s₃ : Shared, s₃ = { s with heap := h₁, toks := s.toks + ([] : List (Str × Value)).length } →
      codeAny (model prog w) A (.compLoop (.ListComp elt [⟨.Name x px, iter, ifs, 0⟩] scope pos) 0 (.ref I) (.ref s.heap.objs.size) (compEnvC scope cl H2.objs.size env))
        (compPost (model prog w) A E (some (assign (.Name y py) env)) (fun _ s' => Q .next s') (.ref s.heap.objs.size) H2.objs.size) s₃ := by
    rintro s₃ rfl
    refine codeAny_compLoop_tests
      (fun k s' => ∃ h' tk i c m', s' = { s with heap := h', toks := tk } ∧ i ≤ n ∧ k = n + 1 - i ∧ St i h' ∧ Fr h₀ L h' m ∧ h'.Ns H2.objs.size m' ∧ News h₀ L h' ((s.heap.objs.size, lst (ys c)) :: (Tps c ++ news)) ∧
        (∀ p ∈ Tps c, p.1 ≠ I ∧ p.1 ≠ H2.objs.size ∧ p.1 ≠ s.heap.objs.size) ∧ P i c) ?_ (n + 1)
      ⟨h₁, _, 0, c₀, _, rfl, Nat.zero_le _, rfl, hst₁, F.keeps old, hns₁, fun p hp => ?_, (by rw [hT0]; intro p hp; cases hp), hp0⟩
    · rintro k s' ⟨h', tk, i, c, m', rfl, hi, rfl, hst', F', hn', N', offT, hP⟩
      have offA : ∀ p ∈ Tps c ++ news, p.1 ≠ I ∧ p.1 ≠ H2.objs.size ∧ p.1 ≠ s.heap.objs.size := fun p hp => (List.mem_append.mp hp).elim (offT p) (offN p)
      by_cases hlt : i < n
      · refine W.item i _ _ _ hlt hst' fun v h₂ tk₂ hPv hst₂ hk₂ => ?_
        have hk₂' : ∀ b o, b ≠ I → h'.get? b = some o → h₂.get? b = some o := fun b o hb e => hk₂ b o (fun q => hb (List.mem_singleton.mp q)) e
        refine wpAny_assign_Name (wpAny_storeName_local (lookup_relabel_local hx) (hn'.at' fun o e => hk₂' _ o (Ne.symm hCI) e) (fun h₃ hn₃ hs₃ => ?_) (by simp [compEnvC, relabel, hkind]))
        have hst₃ : St (i + 1) h₃ := W.frame _ _ _ hst₂ fun b hb o e => hs₃.extBut b o (hLf b hb).1 e
        obtain ⟨oI, heI, hcI⟩ := hIo _ _ hst₃
        obtain ⟨oC, heC, hoC⟩ := LCg.ns_obj hn₃
        have F₃ : Fr h₀ L h₃ m := (LCg.fr_but F' hk₂ hIL hI₀).change hs₃ hCL hC₀
        have N₃ : News h₀ L h₃ ((H2.objs.size, oC) :: (s.heap.objs.size, lst (ys c)) :: (I, oI) :: (Tps c ++ news)) := fun p hp => by
          rcases List.mem_cons.mp hp with rfl | hp
          · exact ⟨heC, hCL, hC₀⟩
          · rcases List.mem_cons.mp hp with rfl | hp
            · have z := N' _ (.head _)
              exact ⟨hs₃.extBut _ _ hDC (hk₂' _ _ (Ne.symm hDI) z.1), z.2⟩
            · rcases List.mem_cons.mp hp with rfl | hp
              · exact ⟨heI, Ne.symm hIL, hI₀⟩
              · have z := N' p (.tail _ hp)
                exact ⟨hs₃.extBut _ _ (offA p hp).2.1 (hk₂' _ _ (offA p hp).1 z.1), z.2⟩
        refine wpAny_mono (turn i c v H2.objs.size oC s.heap.objs.size oI _ h₃ _ hPv hP hoC (by simp) F₃ N₃) (fun ok s₃ hok => ?_) fun _ _ e => e.elim
        have fin : ∀ {R : σ → Value → Prop} {y : Value} {s₄ : Shared}, CEnd h₀ L m s [(H2.objs.size, oC), (s.heap.objs.size, lst (ys c)), (I, oI)] news Tps R y s₄ → ∃ c' h₄ tk₄, s₄ = { s with heap := h₄, toks := tk₄ } ∧ R c' y ∧ St (i + 1) h₄ ∧ Fr h₀ L h₄ m ∧ (∃ m₄, h₄.Ns H2.objs.size m₄) ∧
            News h₀ L h₄ ((s.heap.objs.size, lst (ys c)) :: (Tps c' ++ news)) ∧ (∀ p ∈ Tps c', p.1 ≠ I ∧ p.1 ≠ H2.objs.size ∧ p.1 ≠ s.heap.objs.size) := by
          rintro R y s₄ ⟨c', h₄, tk₄, news₄, rfl, F₄, N₄, sub, hR⟩
          have zC := (N₄ (H2.objs.size, oC) (sub _ (.head _))).1
          have zD := (N₄ (s.heap.objs.size, lst (ys c)) (sub _ (.tail _ (.head _)))).1
          have zI := (N₄ (I, oI) (sub _ (.tail _ (.tail _ (.head _))))).1
          have sub' : ∀ p ∈ Tps c' ++ news, p ∈ news₄ := fun p hp => sub p (List.mem_append_right _ hp)
          refine ⟨c', h₄, tk₄, rfl, hR, W.frame _ _ _ hst₃ fun b hb o e => ?_, F₄, ⟨_, hoC.ns zC⟩, fun p hp => ?_, fun p hp => ?_⟩
          · rcases hfp b hb with q | ⟨o', q⟩ | ⟨o', q⟩
            · rw [q] at e ⊢; rw [heI] at e; cases e; exact zI
            · rw [F₃.keep _ _ q] at e; cases e; exact F₄.keep _ _ q
            · have z := (N₃ (b, o') (.tail _ (.tail _ (.tail _ (List.mem_append_right _ q))))).1
              dsimp only at z
              rw [z] at e; cases e
              exact (N₄ (b, _) (sub' _ (List.mem_append_right _ q))).1
          · rcases List.mem_cons.mp hp with rfl | hp
            · exact N₄ _ (sub _ (.tail _ (.head _)))
            · exact N₄ p (sub' p hp)
          · have zp := (N₄ p (sub' p (List.mem_append_left _ hp))).1
            obtain ⟨t1, its, k', t2⟩ := hT c' p hp
            refine ⟨fun q => ?_, fun q => ?_, fun q => ?_⟩
            · rw [q, zI] at zp; cases zp; exact hcI t1
            · rw [q, zC] at zp; cases zp
              obtain ⟨es, ep, hd, _⟩ := hoC
              rw [hd] at t2; cases t2
            · rw [q, zD] at zp
              have e := Option.some.inj zp
              rw [← e] at t1
              exact absurd (show Value.type "list" = Value.type "tuple" from t1) (by decide)
        cases ok with
        | false =>
          simp only [CTurn, Bool.false_eq_true, if_false] at hok ⊢
          obtain ⟨c', h₄, tk₄, rfl, ⟨hy, hP'⟩, hst₄, F₄, ⟨m₄, hn₄⟩, N₄, off₄⟩ := fin hok
          exact ⟨n + 1 - (i + 1), by omega, h₄, tk₄, i + 1, c', _, rfl, hlt, rfl, hst₄, F₄, hn₄, by rw [hy]; exact N₄, off₄, hP'⟩
        | true =>
          simp only [CTurn, if_true] at hok ⊢
          refine wpAny_mono hok (fun y s₄ h₄ => ?_) fun _ _ e => e.elim
          obtain ⟨c', h₄, tk₄, rfl, ⟨hy, hP'⟩, hst₄, F₄, ⟨m₄, hn₄⟩, N₄, off₄⟩ := fin h₄
          have off4 : ∀ p ∈ Tps c' ++ news, p.1 ≠ I ∧ p.1 ≠ H2.objs.size ∧ p.1 ≠ s.heap.objs.size := fun p hp => (List.mem_append.mp hp).elim (off₄ p) (offN p)
          refine append_at (hsz := by show (ys c).toArray.size ≤ sizeLine; rw [List.size_toArray]; exact Nat.le_trans (hlen i c hP) (Nat.le_trans hi hsz)) (N₄ _ (.head _)).1 fun h₅ hs₅ hD₅ => ?_
          refine ⟨n + 1 - (i + 1), by omega, h₅, tk₄, i + 1, c', _, rfl, hlt, rfl, W.frame _ _ _ hst₄ fun b hb o e => hs₅.extBut b o (hLf b hb).2 e, F₄.change hs₅ hDL hD₀, hn₄.sameBut hs₅ (Ne.symm hDC), fun p hp => ?_, off₄, hP'⟩
          rcases List.mem_cons.mp hp with rfl | hp
          · exact ⟨by rw [hy]; exact hD₅.trans (congrArg some (LCg.lst_snoc (ys c) y)), hDL, hD₀⟩
          · exact ⟨hs₅.extBut _ _ (off4 p hp).2.2 (N₄ p (.tail _ hp)).1, (N₄ p (.tail _ hp)).2⟩
      · obtain rfl : i = n := Nat.le_antisymm hi (Nat.not_lt.mp hlt)
        refine W.done _ _ _ hst' fun h₂ tk₂ hk₂ => ?_
        have hk₂' : ∀ b o, b ≠ I → h'.get? b = some o → h₂.get? b = some o := fun b o hb e => hk₂ b o (fun q => hb (List.mem_singleton.mp q)) e
        have F2 := LCg.fr_but F' hk₂ hIL hI₀
        have hn2 := hn'.at' fun o e => hk₂' _ o (Ne.symm hCI) e
        show wpAny _ A (assign (.Name y py) env (.ref s.heap.objs.size)) _ _ _
        refine wpAny_assign_Name (wpAny_storeName_local hy (by rw [hLe]; exact F2.ns) (fun h₄ hn₄ hs₄ => ?_) hpp)
        rw [hLe] at hn₄ hs₄
        have hL₀ : h₀.get? L = none := Heap.get?_none_of_le F'.above
        have F₄ : Fr h₀ L h₄ (fun z => if z = y then some (.ref s.heap.objs.size) else m z) := ⟨hn₄, fun b o e => hs₄.extBut b o (fun q => by rw [q, hL₀] at e; cases e) (F2.keep b o e), F'.above⟩
        refine ⟨_, hn2.sameBut hs₄ hCL, fun h₃ hs₃ => ?_⟩
        refine done c _ h₃ _ hP (F₄.change hs₃ hCL hC₀) fun p hp => ?_
        have z := N' p hp
        refine ⟨hs₃.extBut _ _ ?_ (hs₄.extBut _ _ z.2.1 (hk₂' _ _ ?_ z.1)), z.2⟩
        · rcases List.mem_cons.mp hp with rfl | hp
          · exact hDC
          · exact (offA p hp).2.1
        · rcases List.mem_cons.mp hp with rfl | hp
          · exact Ne.symm hDI
          · exact (offA p hp).1
    · rw [hT0, List.nil_append, hy0] at hp
      rcases List.mem_cons.mp hp with rfl | hp
      · exact ⟨hacc, hDL, hD₀⟩
      · exact ⟨old _ _ (N p hp).1, (N p hp).2⟩
  exact codeAny_compStart_list (loop _ rfl) (W.self 0 _ _ _ hst₁ (loop _ rfl))
theorem asgBytes {elt iter : Expr} {x y : Str} {px py : Pos} {ifs : List Expr} {scope : Scope} {cl : List (Str × Addr)} {pos spos : Pos} {Q : Flow → Shared → Prop} {b : Array UInt8} {tb : Tok} {news : List (Addr × Obj)}
    (hsw : swapsWith (.ListComp elt [⟨.Name x px, iter, ifs, 0⟩] scope pos) (some (.Name y py)) spos.line env = pure true) (hLe : env.locals = L) (hy : env.kindOf y = some .local) (hpp : (env.scope.kind == .class || (env.scope.kind == .module && env.locals != env.globals)) = false)
    (hclos : closureFor scope env = pure cl) (hnames : ∀ z ∈ scope.names, z.2 = .local → scope.names.lookup z.1 = some .local)
    (hh : A.handled = none) (hsz : b.size ≤ sizeLine)
    (hcell : ∀ y ∈ scope.names, y.2 ≠ .cell) (hkind : scope.kind = .function) (hx : scope.names.lookup x = some .local)
    (he : wpAny (model prog w) A (eval iter env) (fun xv s₁ => ∃ tk, xv = .bytes b tb ∧ s₁ = { s with toks := tk }) E s) (F : Fr h₀ L s.heap m) (N : News h₀ L s.heap news)
    (Tps : σ → List (Addr × Obj)) (hT : ∀ c, ∀ p ∈ Tps c, p.2.cls = .type "tuple" ∧ ∃ its k, p.2.data = .seq its k) (ys : σ → List Value) (P : Nat → σ → Prop) (c₀ : σ) (hT0 : Tps c₀ = []) (hy0 : ys c₀ = []) (hp0 : P 0 c₀) (hlen : ∀ i c, P i c → (ys c).length ≤ i)
    (turn : ∀ i (c : σ) k t, b[i]? = some k → P i c → ∀ s', TurnOf prog w A h₀ L m s' env elt x ifs scope cl news Tps ys P i c (.int (k.toNat : Int) t))
    (done : ∀ c D h tk, P b.size c → Fr h₀ L h (fun z => if z = y then some (.ref D) else m z) → News h₀ L h ((D, lst (ys c)) :: (Tps c ++ news)) → Q .next { s with heap := h, toks := tk })
    (hs : ∀ x, foldedSetIterable iter env x = pure x := by intro _; rfl) :
    wpAny (model prog w) A (exec (.Assign [.Name y py] (.ListComp elt [⟨.Name x px, iter, ifs, 0⟩] scope pos) spos) env) Q E s := by
  rw [exec_Assign_Name_used _ _ _ _ hsw]
  refine wpAny_bind (wpAny_standAt (wpAny_bind ?_))
  show wpAny _ A (do let _ ← comprehension (.ListComp elt [⟨.Name x px, iter, ifs, 0⟩] scope pos) scope env _ (newList []) false (eval iter env) (some (assign (.Name y py) env))) _ _ s
  refine wpAny_bind (wpAny_mono (wpAny_comprehension_free (use := some (assign (.Name y py) env)) (Q := fun _ s' => Q .next s') rfl hs hclos hkind hnames
    (wpAny_mono he (fun xv s₁ h₁ => ?_) fun _ _ e => e)) (fun _ s' hq => wpAny_pure (wpAny_pure hq)) fun _ _ e => e)
  obtain ⟨tk1, rfl, rfl⟩ := h₁
  refine KBw.pyIter_bytes ?_
  have hL : L ≠ s.heap.objs.size := Nat.ne_of_lt F.ns.lt
  refine comp_coreU hLe hy hpp (KBw.walks hh _ b tb) hsz (fun i h st => let ⟨o, ho, hc, _⟩ := st; ⟨o, ho, by rw [hc]; decide⟩) hcell hkind hx ⟨_, Heap.get?_push_size _ rfl, rfl, rfl⟩ (by dsimp only; rw [Heap.size_push]; exact Nat.lt_succ_self _) (fun b hb => .inl (List.mem_singleton.mp hb)) (F.push _) (fun p hp => ⟨Heap.get?_push_of_some _ (N p hp).1, (N p hp).2⟩) hL
    (Heap.get?_none_of_le (Nat.le_trans F.above (Nat.le_of_lt F.ns.lt))) (fun p hp => Nat.ne_of_lt (Heap.lt_size (N p hp).1)) Tps hT ys P c₀ hT0 hy0 hp0 hlen
    (fun i c v C oC D oI m₂ h tk hv hP hoC hm F' N' => ?_) done
  obtain ⟨k, t, hk', rfl⟩ := hv
  exact turn i c k t hk' hP _ C oC D _ oI m₂ h tk hoC hm F' N'
end
/-- how a byte stands in the text of its bytes, for the bytes at hand -/
noncomputable def shownOf (k : Nat) : List Nat := if k = 9 then [92, 116] else if k = 10 then [92, 110] else if k = 13 then [92, 114] else [k]
/-- texts -/
noncomputable def TextVals (vs : List Value) (cs : List (List Nat)) : Prop := vs.length = cs.length ∧ ∀ (i : Nat) (c : List Nat), cs[i]? = some c → ∃ t : Tok, vs[i]? = some (Value.str (st c) t)
theorem TextVals.nil : TextVals [] [] := ⟨rfl, fun i c h => by simp at h⟩
theorem TextVals.snoc {vs : List Value} {cs : List (List Nat)} {c : List Nat} {t : Tok} (h : TextVals vs cs) : TextVals (vs ++ [.str (st c) t]) (cs ++ [c]) := by
  refine ⟨by simp [h.1], fun i d hd => ?_⟩
  by_cases hi : i < cs.length
  · rw [List.getElem?_append_left hi] at hd
    obtain ⟨u, hu⟩ := h.2 i d hd
    exact ⟨u, by rw [List.getElem?_append_left (by rw [h.1]; exact hi)]; exact hu⟩
  · have e : i = cs.length := by
      have := (List.getElem?_eq_some_iff.mp hd).1
      simp at this; omega
    subst e
    simp at hd
    subst hd
    exact ⟨t, by rw [← h.1]; simp⟩
local macro_rules | `(tactic| walk_at "call builtin:chr") => `(tactic| (k_here; (refine chr_nat (by omega) ?_); intro t' tk'))
theorem TextVals.strs : ∀ {vs : List Value} {cs : List (List Nat)}, TextVals vs cs → StrsAre vs (cs.map st)
  | [], [], _ => .nil
  | [], _ :: _, h => by have := h.1; simp at this
  | _ :: _, [], h => by have := h.1; simp at this
  | v :: vs, c :: cs, h => by
    obtain ⟨t, ht⟩ := h.2 0 c rfl
    have e : v = .str (st c) t := Option.some.inj ht
    subst e
    exact .cons _ t (TextVals.strs ⟨by have := h.1; simpa using this, fun i d hd => h.2 (i + 1) d hd⟩)
theorem join_st : ∀ cs : List (List Nat), Txt.join Str.empty (cs.map st) = st cs.flatten := by
  intro cs
  show PySem.Builtin.Str.glued Str.empty _ = _
  rw [PySem.StrLaws.glued_eq_join]
  induction cs with
  | nil => rfl
  | cons c r ih =>
    cases r with
    | nil => show st c = st (c ++ []); rw [List.append_nil]
    | cons d r =>
      show st c ++ Str.empty ++ Str.join Str.empty ((d :: r).map st) = st (c ++ (d :: r).flatten)
      rw [ih, show Str.empty = st [] from rfl, st_app, st_app, List.append_nil]
theorem sum_st : ∀ cs : List (List Nat), ((cs.map st).map (·.length)).sum = cs.flatten.length
  | [] => rfl
  | c :: r => by
    rw [List.map_cons, List.map_cons, List.sum_cons, sum_st r, List.flatten_cons, List.length_append, st_len]
theorem join_texts {prog : Program} {w : World} {A : Around} {E : Value → Shared → Prop} {s : Shared} {D : Addr} {vs : List Value} {cs : List (List Nat)} {t : Tok} {Q : Value → Shared → Prop} (hl : s.heap.get? D = some (lst vs)) (hv : TextVals vs cs) (hn : cs.flatten.length ≤ 10000000)
    (h : ∀ t' k, Q (.str (st cs.flatten) t') { s with toks := k }) : wpAny (model prog w) A (call (.builtin "str.join") [.str Str.empty t, .ref D]) Q E s := by
  refine join_list (items := vs.toArray) ⟨_, hl, rfl, ⟨_, rfl⟩⟩ hv.strs ?_ ?_
  · rw [sum_st, show Str.empty.length = 0 from rfl, Nat.mul_zero]; omega
  · rw [join_st]; exact h
theorem shown_len : ∀ l : List Nat, (l.map shownOf).flatten.length ≤ 2 * l.length
  | [] => Nat.zero_le _
  | k :: r => by
    have h := shown_len r
    rw [List.map_cons, List.flatten_cons, List.length_append, List.length_cons]
    have : (shownOf k).length ≤ 2 := by
      unfold shownOf
      split; · decide
      split; · decide
      split; · decide
      show 1 ≤ 2; decide
    omega
theorem shown_spec {prog : Program} {w : World} {A : Around} {s : Shared} {p : Program} {loose : List Str} {mean : ExcName → Option Value} {mg mb : Str → Option Value} {Q E : Value → Shared → Prop}
    (X : (hd.heap_1 w.params).In s.heap) (T : Top p loose mean mg mb s.heap) (hdp : A.depth + 1 < recursionLimit) (hh : A.handled = none)
    {b : Array UInt8} {t : Tok} {bs : List Nat} (hb : b.toList.map (·.toNat) = bs) (hn : bs.length ≤ 100000)
    (ret : ∀ t2 h' tk', Kp s.heap h' → Q (.str (st ([98, 39] ++ bs.flatMap shownOf ++ [39])) t2) { s with heap := h', toks := tk' }) :
    wpAny (model prog w) A (call (.ref 263) [.bytes b t]) Q E s := by
  have hsz : b.size = bs.length := by rw [← hb]; simp
  k_dflt (refine' enter ([(Str.ofString "octets", .bytes b t)]) X T (Ent.self _) ?k1 ?k2 (Nat.lt_of_le_of_lt (Nat.le_add_right _ _) hdp) ?k3 ?k4 ?k5 ?_ ?c1 ?c2 ?c3 ?c4; (case k1 => k_is); (case k2 => k_is); (case k3 => exact BindsTo.of_eq rfl); (case k4 => exact locs rfl); (case k5 => (dsimp only [List.map]; decide)); (case c1 => exact rfl); (case c2 => exact rfl); (case c3 => exact rfl); (case c4 => decide))
  intro L' h' u' tk' F' N'
  (try dsimp only)
  dsimp only [kstB] at F'
  refine wpAny_mono (E := Fa) ?_ (fun _ _ x => x) (fun _ _ x => x.elim)
  refine wpAny_execs_cons ?_
  refine asgBytes (tb := t) (L := L') (by with_unfolding_all rfl) rfl (by rfl) (by rfl) (by rfl) (by decide) hh (by rw [hsz]; exact Nat.le_trans hn (by decide)) (by decide) rfl (by rfl) ?he F' News.nil (fun _ => []) (fun _ _ h => nomatch h) (fun c : List Value => c) (fun i c => TextVals c ((bs.take i).map shownOf) ∧ c.length ≤ i) [] rfl rfl ⟨TextVals.nil, Nat.le_refl _⟩ (fun _ _ h => h.2) ?_ ?_
  · k_steps
  · rintro i c k t hk ⟨hc1, hc2⟩ s9 C oC D I oI m₂ h tk hoC hm F' N'
    have hk' : bs[i]? = some k.toNat := by rw [← hb]; simp [hk]
    have hkl : k.toNat < 256 := k.toNat_lt
    have htk : bs.take (i + 1) = bs.take i ++ [k.toNat] := by rw [List.take_add_one, hk']; rfl
    generalize k.toNat = kn at *
    refine wpAny_tests_nil ?_
    unfold CTurn
    rw [if_pos rfl]
    k_steps
    · have e : kn = 9 := by omega
      subst e
      rw [show Str.ofString "\\t" = st (shownOf 9) by decide]
      exact CEnd.intro (c ++ [.str (st (shownOf 9)) _]) (by assumption) (by assumption) (fun p hp => by simpa using hp) ⟨rfl, by rw [htk, List.map_append]; exact hc1.snoc, by simp; omega⟩
    · have e : kn = 10 := by omega
      subst e
      rw [show Str.ofString "\\n" = st (shownOf 10) by decide]
      exact CEnd.intro (c ++ [.str (st (shownOf 10)) _]) (by assumption) (by assumption) (fun p hp => by simpa using hp) ⟨rfl, by rw [htk, List.map_append]; exact hc1.snoc, by simp; omega⟩
    · have e : kn = 13 := by omega
      subst e
      rw [show Str.ofString "\\r" = st (shownOf 13) by decide]
      exact CEnd.intro (c ++ [.str (st (shownOf 13)) _]) (by assumption) (by assumption) (fun p hp => by simpa using hp) ⟨rfl, by rw [htk, List.map_append]; exact hc1.snoc, by simp; omega⟩
    · have e : shownOf kn = [kn] := by unfold shownOf; rw [if_neg (by omega), if_neg (by omega), if_neg (by omega)]
      rw [← e]
      exact CEnd.intro (c ++ [.str (st (shownOf kn)) _]) (by assumption) (by assumption) (fun p hp => by simpa using hp) ⟨rfl, by rw [htk, List.map_append]; exact hc1.snoc, by simp; omega⟩
  · rintro c D h tk ⟨hc1, hc2⟩ F' N'
    rw [hsz, List.take_length] at hc1
    dsimp only
    k_steps
    rw [show Str.ofString "" = Str.empty by decide]
    have hsl := shown_len bs
    refine join_texts (News.get (by assumption) (.head _)) hc1 (by omega) fun t3 tk3 => ?_
    refine add_at (a := [98, 39]) (by decide) rfl (by show 2 + _ ≤ _; omega) fun t4 tk4 => ?_
    k_steps
    refine add_at (b := [39]) rfl (by decide) (by rw [List.length_append]; show 2 + _ + 1 ≤ _; omega) fun t5 tk5 => ?_
    k_steps
    rename Fr _ _ _ _ => F9
    rw [List.flatMap_def] at ret
    exact ret _ _ _ F9.keep
end Mine
end
section
theorem Mine.anewRm : True := by w_top off; trivial
namespace Mine
/-- a remark that stands -/
structure Old where
  T : Addr
  S : Addr
  k : Nat
  tk : Tok
  sv : List Value
  sn : Nat
  cs : List Nat
noncomputable def Old.objs (o : Old) : List (Addr × Obj) := [(o.T, { cls := .type "tuple", data := .seq #[.int (o.k : Int) o.tk, .ref o.S] }), (o.S, W.listOf o.sv.toArray o.sn)]
structure RmSt where
  S : Addr
  sv : List Value
  sn : Nat
  cs : List Nat
  rn : Nat
  olds : List Old
/-- the signs that a remark may hold -/
noncomputable def Good (c : Nat) : Prop := c ∈ [38, 60, 62, 34, 59, 45, 9, 10, 13, 97] ∨ (128 ≤ c ∧ c ≤ 1114111)
theorem fmod_nat (x : Int) {m : Nat} (h : 0 < m) : ∃ k : Nat, x.fmod m = (k : Int) ∧ k < m := by
  obtain ⟨k, e⟩ := Int.eq_ofNat_of_zero_le (Int.fmod_nonneg_of_pos x (Int.ofNat_lt.mpr h))
  exact ⟨k, e, Int.ofNat_lt.mp (e ▸ Int.fmod_lt_of_pos x (Int.ofNat_lt.mpr h))⟩
theorem good6 (x : Int) : Good (128 + x.fmod 6).toNat := by
  obtain ⟨k, e, h⟩ := fmod_nat x (m := 6) (by decide)
  rw [show x.fmod 6 = (k : Int) from e]
  exact .inr ⟨Nat.le_add_right 128 k, Nat.le_trans (Nat.add_le_add_left (Nat.le_of_lt h) 128) (by decide)⟩
theorem goodA (x : Int) : Good (128 + x.fmod 1111936).toNat := by
  obtain ⟨k, e, h⟩ := fmod_nat x (m := 1111936) (by decide)
  rw [show x.fmod 1111936 = (k : Int) from e]
  exact .inr ⟨Nat.le_add_right 128 k, Nat.le_trans (Nat.add_le_add_left (Nat.le_of_lt h) 128) (by decide)⟩
theorem goodB (x : Int) : Good (128 + x.fmod 1111936 + 2048).toNat := by
  obtain ⟨k, e, h⟩ := fmod_nat x (m := 1111936) (by decide)
  rw [show x.fmod 1111936 = (k : Int) from e]
  exact .inr ⟨Nat.le_trans (Nat.le_add_right 128 k) (Nat.le_add_right _ 2048), Nat.le_trans (Nat.add_le_add_right (Nat.add_le_add_left (Nat.le_of_lt_succ h) 128) 2048) (by decide)⟩
theorem sum1 {a s c n : Nat} (h : a + s + c ≤ n) : a + 1 + (s + c) ≤ n + 1 := by omega
theorem sumC {a s c n : Nat} (h : a + s + c ≤ n) (hn : n ≤ 100) : c < 1000 := Nat.lt_of_le_of_lt (Nat.le_trans (Nat.le_add_left _ _) (Nat.le_trans h hn)) (by decide)
theorem sumA {a s c n : Nat} (h : a + s + c ≤ n) (hn : n ≤ 100) : a < 1000 := Nat.lt_of_le_of_lt (Nat.le_trans (Nat.le_trans (Nat.le_add_right a s) (Nat.le_add_right _ c)) (Nat.le_trans h hn)) (by decide)
theorem tens : ∀ k : Nat, k < 10 → Txt.item (Str.ofString "&<>\";-\t\n\ra") (k : Int) = st [[38, 60, 62, 34, 59, 45, 9, 10, 13, 97].getD k 0] ∧ [38, 60, 62, 34, 59, 45, 9, 10, 13, 97].getD k 0 ∈ [38, 60, 62, 34, 59, 45, 9, 10, 13, 97] := by decide +kernel
theorem remarks_spec {prog : Program} {w : World} {A : Around} {s : Shared} {p : Program} {loose : List Str} {mean : ExcName → Option Value} {mg mb : Str → Option Value} {Q E : Value → Shared → Prop}
    (X : (hd.heap_1 w.params).In s.heap) (T : Top p loose mean mg mb s.heap) (hdp : A.depth + 1 < recursionLimit) (hh : A.handled = none)
    {nl : Addr} {items : Array Value} (hl : s.heap.IsList nl items) (hi : ∀ v ∈ items.toList, ∃ n t, v = .int n t) (hn : items.size ≤ 100)
    (ret : ∀ D rn (olds : List Old) h' tk', Kp s.heap h' → (∀ p ∈ (D, W.listOf (olds.map fun o => Value.ref o.T).toArray rn) :: olds.flatMap Old.objs, h'.get? p.1 = some p.2 ∧ s.heap.get? p.1 = none) → olds.length + (olds.map fun o => o.cs.length).sum ≤ items.size + 1 → (∀ o ∈ olds, SignVals o.sv o.cs ∧ o.k < 4 ∧ ∀ x ∈ o.cs, Good x) → Q (.ref D) { s with heap := h', toks := tk' }) :
    wpAny (model prog w) A (call (.ref 224) [.ref nl]) Q E s := by
  k_dflt (refine' enter ([(Str.ofString "numbers", .ref nl)]) X T (Ent.self _) ?k1 ?k2 (Nat.lt_of_le_of_lt (Nat.le_add_right _ _) hdp) ?k3 ?k4 ?k5 ?_ ?c1 ?c2 ?c3 ?c4; (case k1 => k_is); (case k2 => k_is); (case k3 => exact BindsTo.of_eq rfl); (case k4 => exact locs rfl); (case k5 => (dsimp only [List.map]; decide)); (case c1 => exact rfl); (case c2 => exact rfl); (case c3 => exact rfl); (case c4 => decide))
  intro L' h' u' tk' F' N'
  (try dsimp only)
  dsimp only [kstB] at F'
  refine wpAny_mono (E := Fa) ?_ (fun _ _ x => x) (fun _ _ x => x.elim)
  k_steps
  rename Fr _ _ _ _ => F2
  rename News _ _ _ _ => N2
  rename Heap => h3
  obtain ⟨R, S0, m3, F3, K3, N3, lR⟩ : ∃ (R S0 : Addr) (m : Str → Option Value), Fr s.heap L' h3 m ∧ Known m ([(Str.ofString "numbers", .val (.ref nl)), (Str.ofString "remarks", .val (.ref R)), (Str.ofString "signs", .val (.ref S0))]) ∧ News s.heap L' h3 [(S0, W.listOf #[] 0), (R, W.listOf #[] 0)] ∧ @LT.lt Nat _ R S0 :=
    ⟨_, _, _, F2, Known.val (by with_unfolding_all rfl) rfl (Known.val (by with_unfolding_all rfl) rfl (Known.val (by with_unfolding_all rfl) rfl Known.nil)), N2, by assumption⟩
  refine listA (L := L') hh (by rfl) (by rfl) (hl.at fun o e => F3.keep _ o e) (fun c : RmSt => (c.S, W.listOf c.sv.toArray c.sn) :: (R, W.listOf (c.olds.map fun o => Value.ref o.T).toArray c.rn) :: c.olds.flatMap Old.objs) (.inl (let ⟨o, ho, _⟩ := hl; ⟨o, ho⟩))
    (fun c => [(Str.ofString "numbers", .val (.ref nl)), (Str.ofString "remarks", .val (.ref R)), (Str.ofString "signs", .val (.ref c.S))])
    (fun i c => SignVals c.sv c.cs ∧ c.olds.length + (c.olds.map fun o => o.cs.length).sum + c.cs.length ≤ i ∧ (∀ x ∈ c.cs, Good x) ∧ (∀ o ∈ c.olds, SignVals o.sv o.cs ∧ o.k < 4 ∧ ∀ x ∈ o.cs, Good x) ∧ (∀ p ∈ c.olds.flatMap Old.objs, p.1 ≠ R ∧ p.1 ≠ c.S) ∧ @LT.lt Nat _ R c.S)
    ⟨S0, [], 0, [], 0, []⟩ rfl F3 N3 K3 ?hp ?turn ?done
  case hp => exact ⟨SignVals.nil, Nat.le_refl _, (fun _ h => nomatch h), (fun _ h => nomatch h), (fun _ h => nomatch h), lR⟩
  case done =>
    rintro ⟨S, sv, sn, cs, rn, olds⟩ m τ h tk ⟨h1, h2, h3, h4, h5, h6⟩ F' N'
    dsimp only [nm, V0.mk] at F'
    dsimp only at N' h1 h2 h3 h4 h5 h6 ⊢
    have hsl : sv.length < 1000 := by rw [h1.1]; exact sumC h2 hn
    have hol : olds.length < 1000 := sumA h2 hn
    have off2 : OwnOff (List.flatMap Old.objs olds) [S, R] := fun p hp b hb => by
      rcases List.mem_cons.mp hb with rfl | hb
      · exact (h5 p hp).2
      · rw [List.mem_singleton.mp hb]; exact (h5 p hp).1
    generalize htl : List.flatMap Old.objs olds = tl at N' off2
    k_steps
    rename_i tkD D hD lD hE F9 N9
    dsimp only
    refine ret R (rn + 1) (olds ++ [⟨D, S, 0, tkD, sv, sn, cs⟩]) _ _ (Fr.keep F9) ?_ (by simp; exact sum1 h2) ?_
    · intro p hp
      have hm : p ∈ (D, ({ cls := Value.type "tuple", data := Data.seq #[Value.int 0 tkD, Value.ref S] } : Obj)) :: (S, W.listOf sv.toArray sn) :: (R, W.listOf ((olds.map fun o => Value.ref o.T).toArray.push (Value.ref D)) (rn + 1)) :: tl := by
        rw [← htl]
        simp only [List.map_append, List.map_cons, List.map_nil, List.flatMap_append, List.flatMap_cons, List.flatMap_nil, Old.objs, List.append_nil, List.push_toArray, List.mem_cons, List.mem_append, List.not_mem_nil, or_false, Int.natCast_zero] at hp ⊢
        rcases hp with hq | hq | hq | hq
        all_goals simp [hq]
      exact ⟨News.get (a := p.1) (o := p.2) N9 hm, News.fresh (a := p.1) (o := p.2) N9 hm⟩
    · intro o ho
      rcases List.mem_append.mp ho with ho | ho
      · exact h4 o ho
      · rw [List.mem_singleton.mp ho]; exact ⟨h1, by show 0 < 4; decide, h3⟩
  case turn =>
    rintro i ⟨S, sv, sn, cs, rn, olds⟩ v own u τ h tk hi2 ⟨h1, h2, h3, h4, h5, h6⟩ off F' N'
    obtain ⟨n, tn, rfl⟩ := hi v (by exact Array.mem_toList_iff.mpr (Array.mem_of_getElem? hi2))
    dsimp only [nm, V0.mk] at F'
    dsimp only at N' h1 h2 h3 h4 h5 h6 off ⊢
    dsimp only [List.cons_append] at N' off
    have hi3 : i < items.size := (Array.getElem?_eq_some_iff.mp hi2).1
    have hi4 := Nat.le_trans (Nat.le_of_lt hi3) hn
    have hsl : sv.length < 1000 := by rw [h1.1]; exact sumC h2 hi4
    have hol : olds.length < 1000 := sumA h2 hi4
    have off2 : OwnOff (List.flatMap Old.objs olds ++ own) [S, R] := fun p hp b hb => by
      rcases List.mem_append.mp hp with hp | hp
      · rcases List.mem_cons.mp hb with rfl | hb
        · exact (h5 p hp).2
        · rw [List.mem_singleton.mp hb]; exact (h5 p hp).1
      · exact off p hp b (by rcases List.mem_cons.mp hb with rfl | hb; exact .head _; rw [List.mem_singleton.mp hb]; exact .tail _ (.head _))
    generalize htl : List.flatMap Old.objs olds ++ own = tl at N' off2
    k_steps
    · rename_i am tkD D hD lD hE tkE Lv hF lL hG F9 N9
      obtain ⟨k, hk, hk4⟩ : ∃ k : Nat, (n.fdiv 6).fmod 4 = (k : Int) ∧ k < 4 := fmod_nat _ (by decide)
      rw [hk] at N9
      have lt9 := allLt_mem lL.2.2.2
      have ltD := allLt_mem lD.2.2
      refine End.intro (⟨Lv, [], 0, [], rn + 1, olds ++ [⟨D, S, k, tkD + 1, sv, sn, cs⟩]⟩ : RmSt) (by assumption) N9 ?hl0 (Known.val (by with_unfolding_all rfl) rfl (Known.val (by with_unfolding_all rfl) rfl (Known.val (by with_unfolding_all rfl) rfl Known.nil))) ⟨⟨SignVals.nil, by simp; exact sum1 h2, (fun _ h => nomatch h), ?ho0, ?hd0, Nat.lt_trans h6 lL.2.1⟩, ?off0⟩
      case hl0 =>
        intro p hp
        rw [← htl]
        simp only [List.map_append, List.map_cons, List.map_nil, List.flatMap_append, List.flatMap_cons, List.flatMap_nil, Old.objs, List.append_nil, List.push_toArray, List.mem_cons, List.mem_append, List.not_mem_nil, or_false] at hp ⊢
        rcases hp with hq | hq | (hq | hq | hq) | hq
        all_goals simp [hq]
      case ho0 =>
        intro o ho
        rcases List.mem_append.mp ho with ho | ho
        · exact h4 o ho
        · rw [List.mem_singleton.mp ho]; exact ⟨h1, hk4, h3⟩
      case hd0 =>
        intro p hp
        rw [List.flatMap_append] at hp
        rcases List.mem_append.mp hp with hp | hp
        · exact ⟨(h5 p hp).1, fun e => absurd (e ▸ lt9 p (by rw [← htl]; exact List.mem_append_left _ hp)) (Nat.lt_irrefl _)⟩
        · simp only [List.flatMap_cons, List.flatMap_nil, Old.objs, List.append_nil, List.mem_cons, List.not_mem_nil, or_false] at hp
          rcases hp with rfl | rfl
          · exact ⟨(Nat.ne_of_lt lD.2.1).symm, Nat.ne_of_lt lL.1⟩
          · exact ⟨(Nat.ne_of_lt h6).symm, Nat.ne_of_lt lL.2.1⟩
      case off0 =>
        intro p hp b hb
        have hpt : p ∈ tl := by rw [← htl]; exact List.mem_append_right _ hp
        simp only [List.flatMap_append, List.flatMap_cons, List.flatMap_nil, Old.objs, List.append_nil, List.map_cons, List.map_append, List.map_nil, List.mem_cons, List.mem_append, List.not_mem_nil, or_false] at hb
        rcases hb with rfl | rfl | hb | rfl | rfl
        · exact Nat.ne_of_lt (lt9 p hpt)
        · exact off2 p hpt _ (.tail _ (.head _))
        · exact off p hp b (.tail _ (.tail _ hb))
        · exact Nat.ne_of_lt (ltD p hpt)
        · exact off2 p hpt _ (.head _)
    · rename News _ _ _ _ => N9
      obtain ⟨k, hk, hk4⟩ : ∃ k : Nat, (n.fdiv 6).fmod 10 = (k : Int) ∧ k < 10 := fmod_nat _ (by decide)
      rw [hk, (tens k hk4).1] at N9
      rename Heap => h9
      obtain ⟨tv, N9⟩ : ∃ tv, News s.heap L' h9 ((S, W.listOf (sv.toArray.push (.str (st [([38, 60, 62, 34, 59, 45, 9, 10, 13, 97].getD k 0)]) tv)) (sn + 1)) :: (R, W.listOf (olds.map fun o => Value.ref o.T).toArray rn) :: tl) := ⟨_, N9⟩
      refine End.intro (⟨S, sv ++ [.str (st [([38, 60, 62, 34, 59, 45, 9, 10, 13, 97].getD k 0)]) tv], sn + 1, cs ++ [([38, 60, 62, 34, 59, 45, 9, 10, 13, 97].getD k 0)], rn, olds⟩ : RmSt) (by assumption) N9 (fun p hp => by simpa [← htl] using hp) (Known.val (by with_unfolding_all rfl) rfl (Known.val (by with_unfolding_all rfl) rfl (Known.val (by with_unfolding_all rfl) rfl Known.nil))) ⟨⟨h1.snoc, by simp; exact Nat.succ_le_succ h2, fun x hx => ?_, h4, h5, h6⟩, off⟩
      rcases List.mem_append.mp hx with hx | hx
      · exact h3 x hx
      · rw [List.mem_singleton.mp hx]; exact .inl (tens k hk4).2
    · rename News _ _ _ _ => N9
      rename Heap => h9
      obtain ⟨tv, N9⟩ : ∃ tv, News s.heap L' h9 ((S, W.listOf (sv.toArray.push (.str (st [(128 + (n.fdiv 6).fmod 6).toNat]) tv)) (sn + 1)) :: (R, W.listOf (olds.map fun o => Value.ref o.T).toArray rn) :: tl) := ⟨_, N9⟩
      refine End.intro (⟨S, sv ++ [.str (st [(128 + (n.fdiv 6).fmod 6).toNat]) tv], sn + 1, cs ++ [(128 + (n.fdiv 6).fmod 6).toNat], rn, olds⟩ : RmSt) (by assumption) N9 (fun p hp => by simpa [← htl] using hp) (Known.val (by with_unfolding_all rfl) rfl (Known.val (by with_unfolding_all rfl) rfl (Known.val (by with_unfolding_all rfl) rfl Known.nil))) ⟨⟨h1.snoc, by simp; exact Nat.succ_le_succ h2, fun x hx => ?_, h4, h5, h6⟩, off⟩
      rcases List.mem_append.mp hx with hx | hx
      · exact h3 x hx
      · rw [List.mem_singleton.mp hx]; exact good6 _
    · rename News _ _ _ _ => N9
      rename Heap => h9
      obtain ⟨tv, N9⟩ : ∃ tv, News s.heap L' h9 ((S, W.listOf (sv.toArray.push (.str (st [(128 + (n.fdiv 6).fmod 1111936).toNat]) tv)) (sn + 1)) :: (R, W.listOf (olds.map fun o => Value.ref o.T).toArray rn) :: tl) := ⟨_, N9⟩
      refine End.intro (⟨S, sv ++ [.str (st [(128 + (n.fdiv 6).fmod 1111936).toNat]) tv], sn + 1, cs ++ [(128 + (n.fdiv 6).fmod 1111936).toNat], rn, olds⟩ : RmSt) (by assumption) N9 (fun p hp => by simpa [← htl] using hp) (Known.val (by with_unfolding_all rfl) rfl (Known.val (by with_unfolding_all rfl) rfl (Known.val (by with_unfolding_all rfl) rfl Known.nil))) ⟨⟨h1.snoc, by simp; exact Nat.succ_le_succ h2, fun x hx => ?_, h4, h5, h6⟩, off⟩
      rcases List.mem_append.mp hx with hx | hx
      · exact h3 x hx
      · rw [List.mem_singleton.mp hx]; exact goodA _
    · rename News _ _ _ _ => N9
      rename Heap => h9
      obtain ⟨tv, N9⟩ : ∃ tv, News s.heap L' h9 ((S, W.listOf (sv.toArray.push (.str (st [(128 + (n.fdiv 6).fmod 1111936 + 2048).toNat]) tv)) (sn + 1)) :: (R, W.listOf (olds.map fun o => Value.ref o.T).toArray rn) :: tl) := ⟨_, N9⟩
      refine End.intro (⟨S, sv ++ [.str (st [(128 + (n.fdiv 6).fmod 1111936 + 2048).toNat]) tv], sn + 1, cs ++ [(128 + (n.fdiv 6).fmod 1111936 + 2048).toNat], rn, olds⟩ : RmSt) (by assumption) N9 (fun p hp => by simpa [← htl] using hp) (Known.val (by with_unfolding_all rfl) rfl (Known.val (by with_unfolding_all rfl) rfl (Known.val (by with_unfolding_all rfl) rfl Known.nil))) ⟨⟨h1.snoc, by simp; exact Nat.succ_le_succ h2, fun x hx => ?_, h4, h5, h6⟩, off⟩
      rcases List.mem_append.mp hx with hx | hx
      · exact h3 x hx
      · rw [List.mem_singleton.mp hx]; exact goodB _
end Mine
end
section
namespace Mine
/-- a row of numbers tells a row of signs -/
noncomputable def Tells (cs gs : List Nat) : Prop := (∀ d ∈ gs, d < 2 ^ 60) ∧ gs.length ≤ 1000 ∧ insL (cs.filter (· < 128)) 128 0 gs = cs ∧ InsOk (cs.filter (· < 128)) 128 0 gs
/-- the signs at the places that do not stand in r any more -/
noncomputable def restOf (cs : List Nat) (r : List (Nat × Nat)) (l : List Nat) : List Nat := (l.filter fun i => decide ((cs.getD i 0, i) ∉ r)).map fun i => cs.getD i 0
theorem mem_marks {cs : List Nat} {n c p : Nat} : (c, p) ∈ marks cs n ↔ p < n ∧ 127 < c ∧ cs.getD p 0 = c := by
  unfold marks
  rw [List.mem_map]
  constructor
  · rintro ⟨i, hi, he⟩
    obtain ⟨h1, h2⟩ := List.mem_filter.mp hi
    obtain ⟨rfl, rfl⟩ := Prod.mk.injEq _ _ _ _ ▸ he
    exact ⟨List.mem_range.mp h1, by simpa using h2, rfl⟩
  · rintro ⟨h1, h2, rfl⟩
    exact ⟨p, List.mem_filter.mpr ⟨List.mem_range.mpr h1, by simpa using h2⟩, rfl⟩
theorem map_getD_range (cs : List Nat) : (List.range cs.length).map (fun i => cs.getD i 0) = cs := by
  apply List.ext_getElem
  · simp
  · intro i h1 h2
    simp [h2]
theorem range_split {p n : Nat} (h : p < n) : List.range n = List.range p ++ p :: List.range' (p + 1) (n - p - 1) := by
  rw [List.range_eq_range', List.range_eq_range', show n = p + ((n - p - 1) + 1) from (by rw [Nat.sub_add_cancel (Nat.sub_pos_of_lt h), Nat.add_sub_cancel' (Nat.le_of_lt h)] : p + ((n - p - 1) + 1) = n).symm, ← List.range'_append_1, List.range'_succ]
  simp only [Nat.zero_add]
  rw [show p + (n - p - 1 + 1) - p - 1 = n - p - 1 by rw [Nat.add_sub_cancel_left]; rfl]
theorem ahead_le {cs : List Nat} {c p q : Nat} (h : p < q) (hc : cs.getD p 0 ≤ c) : ahead cs c p + 1 ≤ ahead cs c q := by
  have h1 : ahead cs c (p + 1) = ahead cs c p + 1 := by
    unfold ahead
    rw [List.range_succ, List.filter_append, List.length_append, List.filter_cons_of_pos (by simpa using hc)]
    rfl
  rw [← h1]
  exact ((List.range_sublist.mpr h).filter _).length_le
theorem rest_step {cs : List Nat} {d r : List (Nat × Nat)} {c p : Nat} (hr : Rises (d ++ (c, p) :: r)) (hp : (d ++ (c, p) :: r).Perm (marks cs cs.length)) :
    ∃ A B, restOf cs ((c, p) :: r) (List.range cs.length) = A ++ B ∧ restOf cs r (List.range cs.length) = A ++ c :: B ∧ A.length = ahead cs c p ∧ p < cs.length ∧ 127 < c ∧ cs.getD p 0 = c := by
  obtain ⟨m1, m2, m3⟩ := mem_marks.mp (hp.mem_iff.mp (List.mem_append_right _ (.head _)))
  obtain ⟨-, r2, r3⟩ := List.pairwise_append.mp hr
  have r4 := (List.pairwise_cons.mp r2).1
  have same : ∀ i, i ≠ p → (decide ((cs.getD i 0, i) ∉ (c, p) :: r)) = decide ((cs.getD i 0, i) ∉ r) := fun i hi => by
    rw [decide_eq_decide, List.mem_cons]
    constructor
    · exact fun h x => h (.inr x)
    · rintro h (x | x)
      · exact hi (congrArg Prod.snd x)
      · exact h x
  have hnr : (cs.getD p 0, p) ∉ r := fun h => by
    have := r4 _ h
    rw [m3] at this
    rcases this with h | h
    · exact Nat.lt_irrefl _ h
    · exact Nat.lt_irrefl _ h.2
  refine ⟨restOf cs r (List.range p), restOf cs r (List.range' (p + 1) (cs.length - p - 1)), ?_, ?_, ?_, m1, m2, m3⟩
  · unfold restOf
    rw [range_split m1, List.filter_append, List.filter_cons_of_neg (by simp only [m3, decide_eq_true_eq]; exact fun h => h (.head _)), List.map_append]
    rw [List.filter_congr (q := fun i => decide ((cs.getD i 0, i) ∉ r)) (l := List.range p) fun i hi => same i (Nat.ne_of_lt (List.mem_range.mp hi)),
      List.filter_congr (q := fun i => decide ((cs.getD i 0, i) ∉ r)) (l := List.range' _ _) fun i hi => same i (Nat.ne_of_gt (List.mem_range'_1.mp hi).1)]
  · unfold restOf
    rw [range_split m1, List.filter_append, List.filter_cons_of_pos (by simpa using hnr), List.map_append, List.map_cons, m3]
  · unfold restOf ahead
    rw [List.length_map]
    congr 1
    refine List.filter_congr fun i hi => ?_
    have hip := List.mem_range.mp hi
    rw [decide_eq_decide]
    constructor
    · intro h
      refine Nat.le_of_not_lt fun hlt => h ?_
      have hm : (cs.getD i 0, i) ∈ d ++ (c, p) :: r := hp.mem_iff.mpr (mem_marks.mpr ⟨Nat.lt_trans hip m1, Nat.lt_trans m2 hlt, rfl⟩)
      rcases List.mem_append.mp hm with hm | hm
      · exact (r3 _ hm _ (.head _)).elim (fun h => absurd hlt (Nat.lt_asymm h)) fun h => absurd hlt (Nat.not_lt.mpr (Nat.le_of_eq h.1))
      · rcases List.mem_cons.mp hm with hm | hm
        · exact absurd (congrArg Prod.snd hm) (Nat.ne_of_lt hip)
        · exact hm
    · intro h hm
      exact (r4 _ hm).elim (fun q => absurd q (Nat.not_lt.mpr h)) fun q => absurd q.2 (Nat.lt_asymm hip)
theorem rest_nil (cs : List Nat) : restOf cs [] (List.range cs.length) = cs := by
  unfold restOf
  rw [List.filter_eq_self.mpr fun i _ => by simp, map_getD_range]
theorem rest_len {cs : List Nat} : ∀ (r d : List (Nat × Nat)), Rises (d ++ r) → (d ++ r).Perm (marks cs cs.length) → (restOf cs r (List.range cs.length)).length + r.length = cs.length
  | [], d, _, _ => by rw [rest_nil]; rfl
  | (c, p) :: r, d, h1, h2 => by
    obtain ⟨A, B, e1, e2, -⟩ := rest_step h1 h2
    have := rest_len r (d ++ [(c, p)]) (by rw [List.append_assoc]; exact h1) (by rw [List.append_assoc]; exact h2)
    rw [e2, List.length_append, List.length_cons] at this
    rw [e1, List.length_append, List.length_cons]
    exact (Nat.succ_add (A.length + B.length) r.length).symm.trans this
theorem rest_all {cs : List Nat} {ps : List (Nat × Nat)} (hp : ps.Perm (marks cs cs.length)) : restOf cs ps (List.range cs.length) = cs.filter (· < 128) := by
  unfold restOf
  conv => rhs; rw [← map_getD_range cs]
  rw [List.filter_map]
  congr 1
  refine List.filter_congr fun i hi => ?_
  show _ = decide (cs.getD i 0 < 128)
  rw [decide_eq_decide, hp.mem_iff, mem_marks]
  have := List.mem_range.mp hi
  constructor
  · intro h; exact Nat.lt_of_not_le fun h2 => h ⟨this, h2, rfl⟩
  · intro h h2; exact absurd h (Nat.not_lt.mpr h2.2.1)
theorem gaps_go {cs : List Nat} (hc : ∀ c ∈ cs, c ≤ 1114111) (hn : cs.length ≤ 10000) (bare : Int) : ∀ (r d : List (Nat × Nat)) (k code behind : Nat), Rises (d ++ r) → (d ++ r).Perm (marks cs cs.length) →
    (∀ c p r', r = (c, p) :: r' → code ≤ c ∧ behind ≤ (c - code) * ((restOf cs r (List.range cs.length)).length + 1) + ahead cs c p) → bare + k = (restOf cs r (List.range cs.length)).length →
    ∃ gs : List Nat, gapsFrom cs bare k code behind r = gs.map (fun d : Nat => (d : Int)) ∧ gs.length = r.length ∧ (∀ x ∈ gs, x < 2 ^ 60) ∧ insL (restOf cs r (List.range cs.length)) code behind gs = cs ∧ InsOk (restOf cs r (List.range cs.length)) code behind gs
  | [], d, k, code, behind, h1, h2, h3, h4 => ⟨[], rfl, rfl, (fun _ h => nomatch h), rest_nil cs, trivial⟩
  | (c, p) :: r, d, k, code, behind, h1, h2, h3, h4 => by
    obtain ⟨A, B, e1, e2, e3, m1, m2, m3⟩ := rest_step h1 h2
    obtain ⟨g1, g2⟩ := h3 c p r rfl
    have hl := rest_len _ _ h1 h2
    have hcl : c ≤ 1114111 := hc c (by rw [← m3]; simp [m1])
    rw [e1] at h4 g2 hl ⊢
    have hAB : ahead cs c p < (A ++ B).length + 1 := by rw [← e3, List.length_append]; exact Nat.lt_succ_of_le (Nat.le_add_right _ _)
    generalize hN : (A ++ B).length = N at h4 g2 hl hAB
    have hN2 : N ≤ 10000 := Nat.le_trans (Nat.le_trans (Nat.le_add_right _ _) (Nat.le_of_eq hl)) hn
    obtain ⟨x, hx⟩ : ∃ x : Nat, behind + x = (c - code) * (N + 1) + ahead cs c p := ⟨_, Nat.add_sub_cancel' g2⟩
    have hdv : (behind + x) / (N + 1) = c - code := by rw [hx, Nat.mul_comm, Nat.mul_add_div (Nat.succ_pos N), Nat.div_eq_of_lt hAB]; rfl
    have hmd : (behind + x) % (N + 1) = ahead cs c p := by rw [hx, Nat.mul_comm, Nat.mul_add_mod, Nat.mod_eq_of_lt hAB]
    have htk : (A ++ B).take (ahead cs c p) = A := by rw [← e3, List.take_left]
    have hdr : (A ++ B).drop (ahead cs c p) = B := by rw [← e3, List.drop_left]
    have hin : (A ++ B).take (ahead cs c p) ++ c :: (A ++ B).drop (ahead cs c p) = restOf cs r (List.range cs.length) := by rw [htk, hdr, e2]
    have hl2 : (restOf cs r (List.range cs.length)).length = N + 1 := by rw [e2, ← hN, List.length_append, List.length_append]; rfl
    obtain ⟨gs, k1, k2, k3, k4, k5⟩ := gaps_go hc hn bare r (d ++ [(c, p)]) (k + 1) c (ahead cs c p + 1) (by rw [List.append_assoc]; exact h1) (by rw [List.append_assoc]; exact h2) (by
      rintro c2 p2 r2 rfl
      obtain ⟨-, r3, -⟩ := List.pairwise_append.mp h1
      have h5 := (List.pairwise_cons.mp r3).1 _ (.head _)
      rcases h5 with h5 | ⟨h5, h6⟩
      · have h5 : c < c2 := h5
        refine ⟨Nat.le_of_lt h5, ?_⟩
        rw [hl2]
        exact Nat.le_trans (Nat.le_trans hAB (Nat.le_succ _)) (Nat.le_trans (Nat.le_mul_of_pos_left _ (Nat.sub_pos_of_lt h5)) (Nat.le_add_right _ _))
      · have h5 : c = c2 := h5
        subst h5
        exact ⟨Nat.le_refl _, Nat.le_trans (ahead_le h6 (by rw [m3]; exact Nat.le_refl _)) (Nat.le_add_left _ _)⟩) (by rw [hl2, Int.natCast_add, Int.natCast_add, ← Int.add_assoc, h4])
    have hcd : code + (c - code) = c := Nat.add_sub_cancel' g1
    refine ⟨x :: gs, ?_, by rw [List.length_cons, List.length_cons, k2], ?_, ?_, ?_⟩
    · rw [gapsFrom, List.map_cons, k1]
      congr 1
      have h7 : ((c : Int) - code) * (bare + k + 1) = (((c - code) * (N + 1) : Nat) : Int) := by
        rw [Int.natCast_mul, Int.natCast_sub g1, h4]; rfl
      rw [h7, ← Int.natCast_add, ← hx, Int.natCast_add, Int.add_comm, Int.add_sub_cancel]
    · intro y hy
      rcases List.mem_cons.mp hy with rfl | hy
      · have : (c - code) * (N + 1) ≤ 1114111 * 10001 := Nat.mul_le_mul (Nat.le_trans (Nat.sub_le _ _) hcl) (Nat.succ_le_succ hN2)
        exact Nat.lt_of_le_of_lt (Nat.le_trans (Nat.le_add_left _ behind) (Nat.le_trans (Nat.le_of_eq hx) (Nat.add_le_add this (Nat.le_of_lt (Nat.lt_of_lt_of_le hAB (Nat.succ_le_succ hN2)))))) (by decide)
      · exact k3 y hy
    · rw [insL, hN, hdv, hmd, hcd, hin]; exact k4
    · rw [InsOk, hN, hdv, hmd, hcd, hin]; exact ⟨hcl, k5⟩
theorem gaps_plain {cs : List Nat} {ps : List (Nat × Nat)} (hp : ps.Perm (marks cs cs.length)) (hr : Rises ps) (hc : ∀ c ∈ cs, c ≤ 1114111) (hn : cs.length ≤ 10000) (h64 : ps.length < 64) :
    ∃ gs : List Nat, gapsFrom cs ((cs.length : Int) - ps.length) 0 128 0 ps = gs.map (fun d : Nat => (d : Int)) ∧ Tells cs gs := by
  have hl := rest_len ps [] hr hp
  obtain ⟨gs, k1, k2, k3, k4, k5⟩ := gaps_go hc hn ((cs.length : Int) - ps.length) ps [] 0 128 0 hr hp (by
    rintro c p r rfl
    obtain ⟨-, m2, -⟩ := mem_marks.mp (hp.mem_iff.mp (.head _))
    exact ⟨m2, Nat.zero_le _⟩) (by omega)
  rw [rest_all hp] at k4 k5
  exact ⟨gs, k1, k3, Nat.le_trans (Nat.le_of_eq k2) (Nat.le_trans (Nat.le_of_lt h64) (by decide)), k4, k5⟩
end Mine
end
section
theorem Mine.anewLb : True := by w_top off; trivial
namespace Mine
local macro_rules | `(tactic| walk_at "binaryOp Add bytes bytes") => `(tactic| (refine held ?_))
local macro_rules | `(tactic| walk_at "call ref") => `(tactic| (refine held ?_))
open LCg (NsObj lst)
theorem intsAre_of : ∀ {vs : List Value} {zs : List Int}, vs.length = zs.length → (∀ (i : Nat) (z : Int), zs[i]? = some z → ∃ t : Tok, vs[i]? = some (Value.int z t)) → IntsAre vs zs
  | [], [], _, _ => .nil
  | [], _ :: _, h, _ => by simp at h
  | _ :: _, [], h, _ => by simp at h
  | v :: vs, z :: zs, h, k => by
    obtain ⟨t, ht⟩ := k 0 z rfl
    simp only [List.getElem?_cons_zero, Option.some.injEq] at ht
    subst ht
    exact .cons _ _ (intsAre_of (by simpa using h) fun i x hx => k (i + 1) x (by simpa using hx))
theorem NumsAre.ints {vs : List Value} {zs : List Int} (h : NumsAre vs zs) : IntsAre vs zs := intsAre_of h.1 h.2
theorem NatsAre.ints {vs : List Value} {ds : List Nat} (h : NatsAre vs ds) : IntsAre vs (ds.map fun d : Nat => (d : Int)) := intsAre_of (by simpa using h.1) fun i z hz => by
  rw [List.getElem?_map] at hz
  cases e : ds[i]? with
  | none => rw [e] at hz; simp at hz
  | some d => rw [e] at hz; simp at hz; subst hz; exact h.2 i d e
theorem ne_nats {prog : Program} {w : World} {A : Around} {E : Value → Shared → Prop} {s : Shared} {h₀ : Heap} {L : Addr} {news : List (Addr × Obj)} {a b : Addr} {xs ys : List Value} {n k : Nat} {ds : List Nat} {Q : Value → Shared → Prop} (N : News h₀ L s.heap news) (ha : (a, seqObj "list" xs.toArray n) ∈ news) (hb : (b, seqObj "list" ys.toArray k) ∈ news)
    (hx : NatsAre xs ds) (hy : NatsAre ys ds) (hu : A.units + 64 < cLine) (h : Q (.bool false) s) : wpAny (model prog w) A (compareOp .NotEq (.ref a) (.ref b)) Q E s := by
  refine ke_ne_ints ⟨_, N.get ha, rfl, _, rfl⟩ ⟨_, N.get hb, rfl, _, rfl⟩ hx.ints hy.ints hu ?_
  rw [decide_eq_true rfl]; exact h
theorem label_spec {prog : Program} {w : World} {A : Around} {s : Shared} {p : Program} {loose : List Str} {mean : ExcName → Option Value} {mg mb : Str → Option Value} {Q : Value → Shared → Prop}
    (X : (hd.heap_1 w.params).In s.heap) (T : Top p loose mean mg mb s.heap) (hdp : A.depth + 3 < recursionLimit) (hh : A.handled = none) (hg : A.guards = some []) (hu : A.units ≤ 190)
    {v : Value} {cs : List Nat} (hv : Sg s.heap v cs) (hn : cs.length ≤ 10000) (h64 : (marks cs cs.length).length < 64)
    (hc : ∀ c ∈ cs, c ≤ 1114111)
    (ret : ∀ gs t h' tk', Kp s.heap h' → Tells cs gs → Q (.bytes (label (cs.filter (· < 128)) (giL (cs.filter (· < 128)).length 0 72 gs)) t) { s with heap := h', toks := tk' }) :
    wpC (model prog w) A (call (.ref 258) [v]) Q s := by
  k_dflt (refine' enterC ([(Str.ofString "signs", v)]) X T (Ent.self _) ?k1 ?k2 (Nat.lt_of_le_of_lt (Nat.le_add_right _ _) hdp) ?k3 ?k4 ?k5 ?_ ?c1 ?c2 ?c3 ?c4; (case k1 => k_is); (case k2 => k_is); (case k3 => exact BindsTo.of_eq rfl); (case k4 => exact locs rfl); (case k5 => (dsimp only [List.map]; decide)); (case c1 => exact rfl); (case c2 => exact rfl); (case c3 => exact rfl); (case c4 => decide))
  intro L' h' u' tk' F' N'
  (try dsimp only)
  dsimp only [kstB] at F'
  refine wpC_execs_any ?_
  k_steps
  rename Fr _ _ _ _ => F2
  refine bare_spec (A := A.deeper _) (Frag.In.keeps X F2.keep) (T.keeps F2.keep) (dep (m := 2) hdp (by decide)) hh (hv.kp F2.keep) (by omega) fun D ys h3 tk3 k3 hD hDo hys => ?_
  have F4 := Fr.kp F2 k3
  have N4 := News.new F2 (by assumption) hD hDo k3
  k_steps
  have hb128 : ∀ c ∈ cs.filter (· < 128), c < 128 := fun c hc => by simpa using (List.mem_filter.mp hc).2
  have hbl : (cs.filter (· < 128)).length ≤ 10000 := Nat.le_trans (List.length_filter_le _ _) hn
  generalize hbs : cs.filter (· < 128) = bs at *
  refine compList (items := ys.toArray) hh ⟨_, News.get N4 (.head _), rfl, _, rfl⟩ (.inr ⟨_, .head _⟩) ?hz (by decide) rfl (by rfl) F4 N4 (fun _ => []) (fun _ _ h => nomatch h) (fun c : List Value => c) (fun i c => NatsAre c (bs.take i) ∧ c.length ≤ i) [] rfl rfl ⟨⟨rfl, fun i c h => by simp at h⟩, Nat.le_refl _⟩ (fun _ _ h => h.2) ?turn ?done
  case hz => rw [List.size_toArray, hys.1, sizeLine_eq]; omega
  case turn =>
    rintro i c v hv2 ⟨hc1, hc2⟩ C oC D2 I oI m₂ h tk hoC hm F' N'
    have hi : i < bs.length := by have := (Array.getElem?_eq_some_iff.mp hv2).1; simpa [hys.1] using this
    obtain ⟨t1, ht1⟩ := hys.2 i bs[i] (by simp [hi])
    have ev : v = .str (st [bs[i]]) t1 := by have : ys[i]? = some v := by simpa using hv2
                                             rw [ht1] at this; exact (Option.some.inj this).symm
    subst ev
    refine wpAny_pure ?_
    unfold CTurn
    rw [if_pos rfl]
    k_steps
    have htk : bs.take (i + 1) = bs.take i ++ [bs[i]] := by rw [List.take_add_one]; simp [hi]
    refine CEnd.intro (c ++ [.int (bs[i] : Int) tk]) (by assumption) (by assumption) (fun p hp => by simpa using hp) ⟨rfl, by rw [htk]; exact hc1.snoc, by simp; omega⟩
  case done =>
    rintro c D2 h tk ⟨hc1, hc2⟩ F' N'
    rw [show ys.toArray.size = bs.length by simpa using hys.1, List.take_length] at hc1
    dsimp only at N' ⊢
    k_steps
    refine bytes_K (vs := c) F' N' ⟨_, News.get N' (.head _), rfl, _, rfl⟩ hc1.ints (fun n hn => by obtain ⟨d, hd, rfl⟩ := List.mem_map.mp hn; have := hb128 d hd; omega) (by rw [hc1.1, sizeLine_eq]; omega) hh fun h5 t5 tk5 F5 N5 _ => ?_
    have eb : ((bs.map fun d : Nat => (d : Int)).map fun n => n.toNat.toUInt8).toArray = (bs.map Nat.toUInt8).toArray := by rw [List.map_map]; rfl
    rw [eb]
    k_steps
    refine wpC_execs_any ?_
    k_steps
    rename Fr _ _ _ _ => F6
    rename News _ _ _ _ => N6
    refine gaps_spec (A := A.deeper _) (Frag.In.keeps X F6.keep) (T.keeps F6.keep) (dep (m := 3) hdp (by decide)) hh (hv.kp F6.keep) (by omega) h64 fun G vs ps n h7 tk7 k7 hG hGo hperm hrise hnum => ?_
    have F7 := Fr.kp F6 k7
    have N7 := News.new F6 N6 hG hGo k7
    k_steps
    obtain ⟨gs, hgs, htell⟩ := gaps_plain hperm hrise hc hn (by rw [hperm.length_eq]; exact h64)
    rw [hgs] at hnum
    have hnat : NatsAre vs gs := ⟨by simpa using hnum.1, fun i d hd => hnum.2 i d (by rw [List.getElem?_map, hd]; rfl)⟩
    refine wpC_execs_cons (wpC_Assign_Name (wpC_CallName ?_))
    k_steps
    rename Fr _ _ _ _ => F8
    refine ⟨Kept.fn (Frag.In.keeps X F8.keep) (by k_is), ?_⟩
    have esz : (bs.map Nat.toUInt8).toArray.size = bs.length := by simp
    rename News _ _ _ _ => N8
    dsimp only [List.nil_append]
    rw [esz]
    refine gi_spec (A := A.deeper _) (n := bs.length) (Frag.In.keeps X F8.keep) (T.keeps F8.keep) (dep (m := 3) hdp (by decide)) hh hg ⟨_, News.get N8 (.head _), rfl, _, rfl⟩ hnat htell.1 htell.2.1 (by omega) fun t9 h9 tk9 k9 => ?_
    have F9 := Fr.kp F8 k9
    have N9 := News.kp N8 k9
    clear F8 N8
    k_steps
    refine wpC_execs_cons (wpC_If ?_)
    k_steps
    rename Fr _ _ _ _ => F10
    rename News _ _ _ _ => N10
    rw [esz]
    refine numbers_spec (A := A.deeper _) (size := bs.length) (ds := gs) (Frag.In.keeps X F10.keep) (T.keeps F10.keep) (dep (m := 2) hdp (by decide)) hh (by show A.units + 3 ≤ 200; omega) htell.1 htell.2.1 (by omega) fun D4 vs4 n4 h11 tk11 k11 hD4 hD4o hv4 => ?_
    have F11 := Fr.kp F10 k11
    have N11 := News.new F10 N10 hD4 hD4o k11
    clear F10 N10
    walk1
    refine' ne_nats (ds := gs) N11 (.head _) (.tail _ (.head _)) hv4 hnat ?u ?_
    case u => show A.units + 3 + 64 < 9900; omega
    k_steps
    refine wpC_execs_nil ?_
    dsimp only
    refine wpC_execs_any ?_
    k_steps
    · rename _ = true => hne
      have hb0 : bs ≠ [] := fun e => by rw [e] at hne; simp at hne
      have hlen := giL_len bs.length gs 0 72 htell.1
      have htl := htell.2.1
      refine KBy.add_bytes (by simp; omega) fun t12 k12 => ?_
      k_steps
      refine KBy.add_bytes (by rw [digs_size]; simp; omega) fun t13 k13 => ?_
      k_steps
      dsimp only
      have e : label bs (giL bs.length 0 72 gs) = (bs.map Nat.toUInt8).toArray ++ #[45] ++ digs (giL bs.length 0 72 gs) := by unfold label; rw [if_neg hb0]
      rw [← e]
      exact ret gs _ _ _ (Fr.keep (by assumption)) htell
    · rename _ = false => hne
      have hb0 : bs = [] := by
        cases bs with
        | nil => rfl
        | cons a r => simp at hne
      dsimp only
      have e : label bs (giL bs.length 0 72 gs) = digs (giL bs.length 0 72 gs) := by unfold label; rw [if_pos hb0]
      rw [← e]
      exact ret gs _ _ _ (Fr.keep (by assumption)) htell
end Mine
end
section
set_option maxHeartbeats 4000000
namespace Mine
theorem by_slot_contains : Slot "bytes" "__contains__" "bytes.__contains__" :=
  .of (owner := "bytes") (n := "__contains__") (by rw [typeLookup_type, builtinLookup_eq_fast]; kernel_rfl) (by decide +kernel) (by decide +kernel) (by decide +kernel)
    (by first | exact .inl (by decide +kernel) | exact .inr (by decide +kernel)) (by rw [isSubtype_type]; kernel_rfl)
theorem by_entry_contains : entryFor table "bytes.__contains__" = some Builtin.«bytes.__contains__» := entryFor_of_tree (by kernel_rfl)
theorem by_args_contains (a b : Value) : argsOk "bytes.__contains__" ⟨[a, b], []⟩ := by unfold argsOk; kernel_rfl
theorem in_bytes_raise {prog : Program} {w : World} {A : Around} {E : Value → Shared → Prop} {s : Shared} {y : Str} {u : Tok} {b : Array UInt8} {t : Tok} {Q : Value → Shared → Prop} (hh : A.handled = none)
    (h : ∀ h' tk e, Heap.NewExc s.heap h' e "TypeError" → E (.ref e) { s with heap := h', toks := tk }) : wpAny (model prog w) A (compareOp .In (.str y u) (.bytes b t)) Q E s := by
  refine In_slot (typeIs_bytes s b t) by_slot_contains (wpAny_call_entry by_slot_contains (typeIs_bytes s b t) by_entry_contains ?_ (by_args_contains _ _))
  obtain ⟨hp, g, d, tk, os⟩ := s
  have f1 : typeLookup (.type "str") "__index__" = pure none := by rw [typeLookup_type, builtinLookup_eq_fast]; kernel_rfl
  have e0 : slotArgs "__contains__" 1 ⟨[.bytes b t, .str y u], []⟩ = pure (.bytes b t, [.str y u]) := by kernel_rfl
  unfold Builtin.«bytes.__contains__» Builtin.Bytes.containsIn
  refine wpAny_bind (wpAny_of_eq e0 ?_)
  dsimp only
  repeat (any_goals (first | assumption | (with_reducible (first | refine wpAny_bind ?_ | refine wpAny_pure ?_ | refine wpAny_holding ?_ | refine wpAny_standAt ?_ | refine wpAny_point ?_ | refine wpAny_of_eq (by assumption) ?_ | refine wpAny_typeOf (by assumption) ?_ | refine wpAny_specialOf_val (by assumption) (by assumption) ?_ | refine wpAny_specialOf (by assumption) (by assumption) ?_ | refine wpAny_isInstance_val (by assumption) (by assumption) ?_ | refine wpAny_isInstance (by assumption) (by assumption) ?_ | ((show wpAny _ _ (mkStr _) _ _ _); refine wpAny_mkStr' ?_) | ((show wpAny _ _ (mkInt _) _ _ _); refine wpAny_mkInt' ?_) | refine wpAny_letGo ?_ | refine wpAny_throw ?_ | refine wpAny_attempt ?_)) | wp_delta | wp_step))
  refine wpAny_raiseErrorMade plainExc_TypeError hh (fun h1 tk1 e1 x1 => ?_) (by decide +kernel)
  have f2 : typeLookup (.type "str") "__buffer__" = pure none := by rw [typeLookup_type, builtinLookup_eq_fast]; kernel_rfl
  have f3 : Builtin.Bytes.buffer? "bytes.__contains__" (Value.bytes b t) = pure (some b) := by kernel_rfl
  refine wpAny_bind (wpAny_of_eq f3 ?_)
  dsimp only
  unfold Builtin.Bytes.buffer?
  repeat (any_goals (first | assumption | (with_reducible (first | refine wpAny_bind ?_ | refine wpAny_pure ?_ | refine wpAny_holding ?_ | refine wpAny_standAt ?_ | refine wpAny_point ?_ | refine wpAny_of_eq (by assumption) ?_ | refine wpAny_typeOf (by assumption) ?_ | refine wpAny_specialOf_val (by assumption) (by assumption) ?_ | refine wpAny_specialOf (by assumption) (by assumption) ?_ | refine wpAny_isInstance_val (by assumption) (by assumption) ?_ | refine wpAny_isInstance (by assumption) (by assumption) ?_ | ((show wpAny _ _ (mkStr _) _ _ _); refine wpAny_mkStr' ?_) | ((show wpAny _ _ (mkInt _) _ _ _); refine wpAny_mkInt' ?_) | refine wpAny_letGo ?_ | refine wpAny_throw ?_ | refine wpAny_attempt ?_)) | wp_delta | wp_step))
  refine wpAny_raiseErrorMade plainExc_TypeError hh (fun h2 tk2 e2 x2 => ?_) (by decide +kernel)
  refine h h2 tk2 e2 ⟨fun b o q => x2.keeps b o (x1.keeps b o q), ?_, x2.there⟩
  cases q : Heap.get? hp e2 with
  | none => rfl
  | some o => have := x1.keeps _ _ q; rw [x2.new] at this; cases this
end Mine
end
section
set_option maxHeartbeats 4000000
namespace Mine
section
variable {prog : Program} {w : World} {A : Around} {E : Value → Shared → Prop} {s : Shared} {env : Env}
theorem uc_entry : entryFor table "proto.unchain" = some Builtin.«proto.unchain» := entryFor_of_tree (by kernel_rfl)
theorem unchain_end {e h : Value} {a : Addr} {o : Obj} {vs : Array Value} {Q : Value → Shared → Prop} (ho : s.heap.get? a = some o) (hd : o.data = .fields vs) (h2 : vs[2]? = some .none) (hq : Q .none s) :
    wpAny (model prog w) A (runValue (.builtin "proto.unchain" ⟨[e, .ref a, h, .bool false], []⟩)) Q E s := by
  refine wpAny_runValue (codeAny_builtin uc_entry ?_)
  unfold Builtin.«proto.unchain»
  dsimp only
  refine wpAny_bind (wpAny_field ho hd h2 ?_)
  rw [if_pos (by decide)]
  refine wpAny_bind (wpAny_pure ?_)
  refine wpAny_pure ?_
  exact hq
theorem raiseStmt_in {cls : String} (F : ExcRaiseFacts cls) {x : Sem Value} {Q : Flow → Shared → Prop} {e1 : Addr} (hh : A.handled = some (.ref e1))
    (h : wpAny (model prog w) A x (fun v s₁ => ∃ e t, v = .ref e ∧ e1 ≠ e ∧ s₁.heap.get? e = some { cls := .type cls, data := .fields #[.ref t, .none, .none, .none, .bool false, .none] } ∧
      (∃ o vs, s₁.heap.get? e1 = some o ∧ o.data = .fields vs ∧ vs[2]? = some .none) ∧ E (.ref e) { s₁ with heap := s₁.heap.update e (Obj.mapFields (·.setIfInBounds 2 (.ref e1))) }) E s) :
    wpAny (model prog w) A (raiseStmt env (some x) none) Q E s := by
  unfold raiseStmt
  refine wpAny_bind (wpAny_mono h (fun v s₁ h₁ => ?_) fun _ _ x => x)
  obtain ⟨e, t, rfl, hne, he, ⟨o, vs, ho, hd, h2⟩, hE⟩ := h₁
  obtain ⟨hp, g, d, tk, os⟩ := s₁
  have hsub := F.isExc
  have hmeta := F.plainMeta
  repeat (first | refine wpAny_loadPart he ?_ | wp_step)
  unfold raiseNew
  refine wpAny_bind (wpAny_handled ?_)
  rw [hh]
  dsimp only
  have hb : ((Value.ref e1 != Value.ref e) = true) := by simpa using hne
  rw [if_pos hb]
  refine wpAny_bind (wpAny_holding (unchain_end ho hd h2 ?_))
  show wpAny _ _ (setField (.ref e) 2 (.ref e1) >>= fun _ => throw (Value.ref e)) _ _ _
  exact wpAny_bind (wpAny_setField he rfl (by show 2 < 6; decide) (wpAny_throw hE))
theorem Raise_in {cls newId initId : String} (F : ExcCallFacts cls newId initId) (G : ExcRaiseFacts cls) {x : Str} {np cpos pos : Pos} {args : List Expr} {Q : Flow → Shared → Prop} {e1 : Addr} (hh : A.handled = some (.ref e1)) (hplain : (backTo cpos (starEach args env)).any (·.1) = false)
    (h : wpAny (model prog w) A (eval (.Name x np) env) (fun f s₁ => f = .type cls ∧ wpAny (model prog w) A (evalArgs (.type cls) true (backTo cpos (starEach args env)) [])
      (fun a s₂ => a.kw = [] ∧ a.pos.length ≤ sizeLine ∧ (∃ o vs, s₂.heap.get? e1 = some o ∧ o.data = .fields vs ∧ vs[2]? = some .none) ∧
        ∀ h' e, Heap.MadeExc s₂.heap h' e cls a.pos → E (.ref e) { s₂ with heap := h'.update e (Obj.mapFields (·.setIfInBounds 2 (.ref e1))) }) E s₁) E s) :
    wpAny (model prog w) A (exec (.Raise (some (.Call (.Name x np) args [] cpos)) none pos) env) Q E s := by
  have key : wpAny (model prog w) A (eval (.Call (.Name x np) args [] cpos) env) (fun v s₁ => ∃ e t, v = .ref e ∧ e1 ≠ e ∧ s₁.heap.get? e = some { cls := .type cls, data := .fields #[.ref t, .none, .none, .none, .bool false, .none] } ∧
      (∃ o vs, s₁.heap.get? e1 = some o ∧ o.data = .fields vs ∧ vs[2]? = some .none) ∧ E (.ref e) { s₁ with heap := s₁.heap.update e (Obj.mapFields (·.setIfInBounds 2 (.ref e1))) }) E s := by
    refine wpAny_Call_ofName (wpAny_mono h (fun f s₁ h₁ => ?_) fun _ _ x => x)
    obtain ⟨rfl, h₁⟩ := h₁
    refine callWith_excType hplain (wpAny_mono h₁ (fun a s₂ h₂ => ?_) fun _ _ x => x)
    obtain ⟨apos, akw⟩ := a
    obtain ⟨hkw, hlen, ⟨o, vs, ho, hd, h2⟩, h₂⟩ := h₂
    obtain rfl : akw = [] := hkw
    obtain ⟨hp, g, d, tk, os⟩ := s₂
    refine wpAny_call_exc F (hrest := hlen) fun h' e hm => ?_
    obtain ⟨t, ht, _, _⟩ := hm.there
    exact ⟨e, t, rfl, fun q => (by have z := hm.new; rw [← q] at z; exact absurd (ho.symm.trans z) (by simp)), ht, ⟨o, vs, hm.keeps _ _ ho, hd, h2⟩, h₂ h' e hm⟩
  rw [arm_exec_Raise]
  first
    | exact wpAny_bind (wpAny_standAt (raiseStmt_in G hh (wpAny_bind (wpAny_mono key (fun v s₁ h₁ => wpAny_bind (wpAny_standAt (wpAny_pure h₁))) fun _ _ x => x))))
    | (simp only [evalOpt, Option.map]; exact wpAny_bind (wpAny_standAt (raiseStmt_in G hh (wpAny_bind (wpAny_mono key (fun v s₁ h₁ => wpAny_bind (wpAny_standAt (wpAny_pure h₁))) fun _ _ x => x)))))
end
end Mine
end
section
theorem Mine.anewRz : True := by w_top off; trivial
namespace Mine
theorem literal_gives {b : Array UInt8} {t : Tok} (hz : b.size ≤ 100000) : Gives (Builtin.«bytes.__repr__» ⟨[.bytes b t], []⟩) (.str (Builtin.Bytes.literal b)) := by
  refine .of_eq ?_
  have e1 : Builtin.Bytes.literalAsked b = pure (Builtin.Bytes.literal b) := by
    unfold Builtin.Bytes.literalAsked
    rw [show Builtin.Bytes.tooLong (4 * b.size + 3 + 0) = false by unfold Builtin.Bytes.tooLong; rw [sizeLine_eq]; exact decide_eq_false (by omega)]
    rfl
  show (Builtin.Bytes.literalAsked b >>= retStr) = _
  rw [e1]
  rfl
theorem by_slot_repr : Slot "bytes" "__repr__" "bytes.__repr__" :=
  .of (owner := "bytes") (n := "__repr__") (by rw [typeLookup_type, builtinLookup_eq_fast]; kernel_rfl) (by decide +kernel) (by decide +kernel) (by decide +kernel)
    (by first | exact .inl (by decide +kernel) | exact .inr (by decide +kernel)) (by rw [isSubtype_type]; kernel_rfl)
theorem by_entry_repr : entryFor table "bytes.__repr__" = some Builtin.«bytes.__repr__» := entryFor_of_tree (by kernel_rfl)
theorem by_args_repr (a : Value) : argsOk "bytes.__repr__" ⟨[a], []⟩ := by unfold argsOk; kernel_rfl
theorem repr_by {prog : Program} {w : World} {A : Around} {E : Value → Shared → Prop} {s : Shared} {b : Array UInt8} {t : Tok} {Q : Value → Shared → Prop} (hz : b.size ≤ 100000) (hl : (Builtin.Bytes.literal b).length ≤ 500000) (h : ∀ t' tk, Q (.str (Builtin.Bytes.literal b) t') { s with toks := tk }) :
    wpAny (model prog w) A (pyReprObj (.bytes b t)) Q E s :=
  wpAny_pyReprObj_gives (typeIs_bytes s b t) by_slot_repr by_entry_repr (by_args_repr _) (literal_gives hz) (h _ _) rfl (Nat.le_trans hl (by decide))
/-- what stands around a call, but for the frames -/
structure Gd (hb h : Heap) (outer : List Env) : Prop where
  stays : hb.StaysIn h
  size : hb.objs.size ≤ h.objs.size
  frames : h.FunFrames hb outer
theorem args_of {M : Model} {A : Around} {E : Value → Shared → Prop} {s : Shared} {f : Value} {pos : Pos} {env : Env} {e : Expr} {rest : List Expr} {Q : Args → Shared → Prop}
    (h : wpAny M A (spliced (backTo pos (starEach (e :: rest) env))) (fun vs s' => Q ⟨vs, []⟩ s') E s) (he : starEach (e :: rest) env = (false, eval e env) :: starEach rest env := by rfl) : wpAny M A (evalArgs f true (backTo pos (starEach (e :: rest) env)) []) Q E s := by
  rw [he] at h ⊢
  exact evalArgs_plain h
local macro_rules | `(tactic| walk_at "joinParts") => `(tactic| ((with_reducible show wpAny _ _ (joinParts (_ ++ Str.ofString ")") _) _ _ _); refine held ?_))
theorem raise51 {prog : Program} {w : World} {A : Around} {s : Shared} {p : Program} {loose : List Str} {mean : ExcName → Option Value} {mg mb : Str → Option Value} {Q E : Value → Shared → Prop} {hb : Heap} {outer : List Env}
    (X : (hd.heap_1 w.params).In hb) (T : Top p loose mean mg mb hb) (hdp : A.depth < recursionLimit) (hfr : A.frames = some outer) {e1 : Addr} (hh : A.handled = some (.ref e1)) (G : Gd hb s.heap outer) (hbe : hb.get? e1 = none)
    {o1 : Obj} {vs1 : Array Value} (g1 : s.heap.get? e1 = some o1) (hd1 : o1.data = .fields vs1) (h2 : vs1[2]? = some .none) {b : Array UInt8} {t : Tok} (hz : b.size ≤ 100000) (hl : (Builtin.Bytes.literal b).length ≤ 500000)
    (ret : ∀ e t h' tk' tm, Heap.FlyingW hb outer e (.type "TypeError") (.ref t) h' → h'.TupAt t [.str (Str.ofString "cannot serialize " ++ Builtin.Bytes.literal b ++ Str.ofString " (type bytes)") tm] → s.heap.UpToSlots h' → hb.get? t = none → E (.ref e) { s with heap := h', toks := tk' }) :
    wpAny (model prog w) A (call (.ref 51) [.bytes b t]) Q E s := by
  have X' := Frag.In.keeps X G.stays
  have T' := T.keeps G.stays
  k_dflt (refine' enter [(Str.ofString "text", .bytes b t)] X' T' (Ent.self _) ?k1 ?k2 hdp ?k3 ?k4 ?k5 ?_ ?c1 ?c2 ?c3 ?c4; (case k1 => k_is); (case k2 => k_is); (case k3 => exact BindsTo.of_eq rfl); (case k4 => exact locs rfl); (case k5 => (dsimp only [List.map]; decide)); (case c1 => exact rfl); (case c2 => exact rfl); (case c3 => exact rfl); (case c4 => decide))
  intro L' h' u' tk' F' N'
  (try dsimp only)
  dsimp only [kstB] at F'
  k_steps
  refine Raise_in PySem.F.excCall_TypeError PySem.F.excRaise_TypeError (e1 := e1) hh rfl ?_
  k_steps
  refine args_of ?_
  k_steps
  refine repr_by hz hl fun t3 tk3 => ?_
  generalize Builtin.Bytes.literal b = lit at *
  refine SB.field_str (fun t4 tk4 => ?_) (Nat.le_trans hl (by decide))
  dsimp only
  have l1 : (Str.ofString "cannot serialize ").length = 17 := by decide
  refine ⟨by rw [Str.length_append, Str.length_append, l1, sizeLine_eq]; show 0 + 17 + _ ≤ _; omega, ?_⟩
  k_steps
  refine call_type_of (typeIs_bytes _ _ _) (by decide +kernel) ?_
  k_steps
  rotate_left
  show wpAny _ _ (joinParts _ _) _ _ _
  with_reducible refine joinParts_nilE ?_
  with_reducible refine joinParts_nil ?_ ?hsz
  rotate_left
  case hsz =>
    rw [Str.length_append, Str.length_append, Str.length_append, Str.length_append, Str.length_append, l1, sizeLine_eq]
    exact Nat.le_trans (Nat.add_le_add_right (Nat.add_le_add_right (Nat.add_le_add_right (Nat.add_le_add_left hl (0 + 17)) _) _) _) (by decide)
  k_steps
  · trivial
  rename Heap.MadeExc _ _ _ _ _ => hm
  rename Heap => h5
  rename Addr => e
  obtain ⟨te, he, htn, htt⟩ := hm.there
  have hbe' : ∀ {b o}, hb.get? b = some o → h'.get? b = some o := fun q => F'.keep _ _ (G.stays _ _ q)
  have hben : hb.get? e = none := by
    cases q : hb.get? e with
    | none => rfl
    | some o => have := hbe' q; rw [hm.new] at this; cases this
  have hbtn : hb.get? te = none := by
    cases q : hb.get? te with
    | none => rfl
    | some o => have := hbe' q; rw [htn] at this; cases this
  have oth : ∀ {b : Addr} {o : Obj}, h'.get? b = some o → (h5.update e (Obj.mapFields (·.setIfInBounds 2 (.ref e1)))).get? b = some o := fun {b o} q => by
    rw [Heap.get?_update_other _ _ (fun z => by rw [← z, hm.new] at q; cases q)]
    exact hm.keeps _ _ q
  have he2 := Heap.get?_update_self (Obj.mapFields (·.setIfInBounds 2 (Value.ref e1))) he rfl
  have hte : e ≠ te := fun z => by
    rw [← z] at htt
    have z2 := congrArg Obj.cls (Option.some.inj (he.symm.trans htt))
    injection z2 with z3
    exact absurd z3 (by decide)
  have htt2 := (Heap.get?_update_other h5 (Obj.mapFields (·.setIfInBounds 2 (Value.ref e1))) hte).trans htt
  obtain ⟨oL, esL, nL, hoL, hdL, -⟩ := F'.ns
  refine' wpAny_leaving_firstW (base := hb) (a0 := .ref te) (Around.frames_deeper hfr) ?hl rfl he2 (fun b o q => oth (hbe' q)) hben rfl rfl rfl fun h9 hL => ?_
  case hl => exact ⟨by (intro z; cases z), ⟨L', oL, rfl, Heap.get?_none_of_le (Nat.le_trans G.size F'.above), oth hoL, fun vs z => by rw [hdL] at z; cases z⟩, G.frames.of_keeps fun b o q _ => ⟨o, oth (F'.keep _ _ q), rfl⟩⟩
  obtain ⟨k1, ⟨_, _, k2⟩, k3, k4⟩ := hL
  have em : Str.empty ++ Str.ofString "cannot serialize " ++ lit ++ Str.ofString " (type " ++ Str.ofString "bytes" ++ Str.ofString ")" = Str.ofString "cannot serialize " ++ lit ++ Str.ofString " (type bytes)" := by
    rw [Str.empty_append, Str.append_assoc (_ ++ lit), Str.append_assoc (_ ++ lit), show Str.ofString " (type " ++ Str.ofString "bytes" ++ Str.ofString ")" = Str.ofString " (type bytes)" by decide]
  rw [em] at htt2
  exact ret e te h9 _ _ ⟨k1, hben, k2, k3⟩ (Heap.TupAt.of_slots ⟨_, _, htt2, rfl, rfl⟩ k4) ((Heap.UpToSlots.of_keeps fun b o q => oth (F'.keep _ _ q)).trans k4) hbtn
end Mine
end
section
set_option maxHeartbeats 4000000
namespace Mine
section
variable {M : Model} {A : Around} {E : Value → Shared → Prop} {s : Shared}
/-- an exception is noted in its first frame -/
theorem note_first {base : Heap} {env : Env} {outer : List Env} {L e : Addr} {oe : Obj} {vs : Array Value} {Q : Unit → Shared → Prop}
    (hfr : A.frames = some (env :: outer)) (hl : s.heap.FunFrames base (env :: outer)) (hf : env.frame = some L) (he : s.heap.get? e = some oe) (hd : oe.data = .fields vs) (h1 : vs[1]? = some .none)
    (h : ∀ (h' : Heap) (T : Addr), (∀ b o, b ∉ (env :: outer).filterMap (·.frame) → b ≠ e → s.heap.get? b = some o → h'.get? b = some o) → (∀ b o, b ≠ e → s.heap.get? b = some o → ∃ sl, h'.get? b = some { o with slots := sl }) →
      h'.get? e = some (Obj.mapFields (·.setIfInBounds 1 (.ref T)) oe) → s.heap.get? T = none → (∃ oT ts, h'.get? T = some oT ∧ oT.data = .fields ts ∧ 3 < ts.size) → Q () { s with heap := h' }) :
    wpAny M A (noteFrame (.ref e) env) (fun _ s₂ => wpAny M A (setFlight (.ref e) none) Q E s₂) E s := by
  have hsz : 1 < vs.size := (Array.getElem?_eq_some_iff.mp h1).1
  have hef : e ∉ (env :: outer).filterMap (·.frame) := fun hm => by
    obtain ⟨_, o, ho, hnf⟩ := hl.mem hm
    rw [he] at ho
    exact hnf vs (Option.some.inj ho ▸ hd)
  unfold noteFrame
  simp only [hf]
  refine wpAny_bind (wpAny_field he hd h1 ?_)
  rw [if_neg (by decide)]
  refine wpAny_bind (wpAny_frameOf_fun hfr hl hf fun h₁ S₁ => ?_)
  refine wpAny_bind (wpAny_entryPlaceOf fun pl hpl => ?_)
  unfold EntryCells.newEntry newFields
  refine wpAny_bind (wpAny_newObj_type ?_ (hpl.sizeOk5 _ _ _ _ _))
  have he₁ : h₁.get? e = some oe := (S₁.2.1 e hef).trans he
  dsimp only
  generalize hts : (([Value.none, Value.ref L, Value.none, rawInt L, Value.none] ++ if pl.isEmpty = true then List.replicate 6 Value.none else pl).toArray) = ts
  have h3 : 3 < ts.size := by rw [← hts]; simp
  have he₂ := Heap.get?_push_of_some (h := h₁) { cls := .type "traceback", data := .fields ts } he₁
  have hTe : h₁.objs.size ≠ e := Nat.ne_of_gt (Heap.lt_size he₁)
  refine wpAny_setField he₂ hd hsz ?_
  have hd₃ := Obj.data_mapFields hd (·.setIfInBounds 1 (Value.ref h₁.objs.size))
  have he₃ := Heap.get?_update_self (Obj.mapFields (·.setIfInBounds 1 (Value.ref h₁.objs.size))) he₂ (Obj.isFreed_of_fields hd₃)
  have hT₃ := (Heap.get?_update_other (h₁.push { cls := .type "traceback", data := .fields ts }) (Obj.mapFields (·.setIfInBounds 1 (Value.ref h₁.objs.size))) (Ne.symm hTe)).trans (Heap.get?_push_size h₁ rfl)
  unfold setFlight
  refine wpAny_bind (wpAny_field (x := .ref h₁.objs.size) he₃ hd₃ (by simp [hsz]) ?_)
  rw [if_pos (show (Value.ref h₁.objs.size != Value.none) = true by simp)]
  refine wpAny_setField hT₃ rfl h3 (h _ h₁.objs.size (fun b o hb hbe q => ?_) (fun b o hbe q => ?_) ?_ ?_ ?_)
  · have q1 := (S₁.2.1 b hb).trans q
    rw [Heap.get?_update_other _ _ (fun z => by rw [← z] at q1; exact absurd (Heap.lt_size q1) (Nat.lt_irrefl _)), Heap.get?_update_other _ _ (Ne.symm hbe)]
    exact Heap.get?_push_of_some _ q1
  · obtain ⟨sl, q1⟩ := S₁.2.2 b o q
    refine ⟨sl, ?_⟩
    rw [Heap.get?_update_other _ _ (fun z => by rw [← z] at q1; exact absurd (Heap.lt_size q1) (Nat.lt_irrefl _)), Heap.get?_update_other _ _ (Ne.symm hbe)]
    exact Heap.get?_push_of_some _ q1
  · rw [Heap.get?_update_other _ _ hTe]; exact he₃
  · rw [S₁.1]; exact Heap.get?_none_of_le (Nat.le_refl _)
  · exact ⟨_, _, Heap.get?_update_self _ hT₃ rfl, rfl, by simpa using h3⟩
end
end Mine
end
section
local macro_rules | `(tactic| walk_at "zz0") => `(tactic| skip)
theorem Mine.anewEb : True := by w_top off; trivial
namespace Mine
theorem frames_led {hb h : Heap} : ∀ {l : List Env}, h.FunFrames hb l → ∃ fo : List (Addr × Obj), (∀ p ∈ fo, h.get? p.1 = some p.2 ∧ hb.get? p.1 = none ∧ (∀ vs, p.2.data ≠ .fields vs) ∧ p.1 ∈ l.filterMap (·.frame)) ∧ ∀ h' : Heap, (∀ p ∈ fo, h'.get? p.1 = some p.2) → h'.FunFrames hb l
  | [], _ => ⟨[], ⟨(fun _ h => nomatch h), fun _ _ => trivial⟩⟩
  | env :: r, hl => by
    obtain ⟨hk, ⟨L, o, hf, hn, ho, hd⟩, hr⟩ := hl
    obtain ⟨fo, k1, k2⟩ := frames_led hr
    refine ⟨(L, o) :: fo, ⟨fun p hp => ?_, fun h' q => ⟨hk, ⟨L, o, hf, hn, q (L, o) (.head _), hd⟩, k2 h' fun p hp => q p (.tail _ hp)⟩⟩⟩
    rw [List.filterMap_cons, hf]
    rcases List.mem_cons.mp hp with rfl | hp
    · exact ⟨ho, hn, hd, .head _⟩
    · exact ⟨(k1 p hp).1, (k1 p hp).2.1, (k1 p hp).2.2.1, .tail _ (k1 p hp).2.2.2⟩
/-- a heap's first objects -/
noncomputable def trunc (h : Heap) (n : Nat) : Heap := { h with objs := h.objs.extract 0 n }
theorem trunc_get {h : Heap} {n b : Nat} (hb : b < n) : (trunc h n).get? b = h.get? b := by
  unfold trunc
  cases h
  simp only [Heap.get?]
  rename_i objs _
  have e : (objs.extract 0 n)[b]? = objs[b]? := by
    rw [Array.getElem?_extract]
    by_cases q : b < objs.size
    · rw [if_pos (by omega), Nat.zero_add]
    · rw [if_neg (by omega), Array.getElem?_eq_none (by omega)]
  rw [e]
theorem trunc_old {h : Heap} {n b : Nat} {o : Obj} (e : (trunc h n).get? b = some o) : b < n ∧ h.get? b = some o := by
  have hb : b < n := by
    have q := Heap.lt_size e
    have q2 : (trunc h n).objs.size ≤ n := by show (h.objs.extract 0 n).size ≤ n; simp; omega
    exact Nat.lt_of_lt_of_le q q2
  exact ⟨hb, by rw [trunc_get hb] at e; exact e⟩
theorem trunc_size (h : Heap) (n : Nat) : (trunc h n).objs.size ≤ n := by show (h.objs.extract 0 n).size ≤ n; simp; omega
theorem Fr.late {hb h₀ h1 h2 : Heap} {L e : Addr} {m : Str → Option Value} (F : Fr h₀ L h1 m) (sz : hb.objs.size ≤ h₀.objs.size) (hL : L ≠ e) (kk : ∀ b o, hb.get? b = some o → h2.get? b = some o)
    (k2 : ∀ b o, b ≠ e → h1.get? b = some o → ∃ sl, h2.get? b = some { o with slots := sl }) : Fr hb L h2 m :=
  ⟨let ⟨o', es, n, ho, r⟩ := F.ns; let ⟨_, q⟩ := k2 _ _ hL ho; ⟨_, es, n, q, r⟩, kk, Nat.le_trans sz F.above⟩
theorem isExc_Attr : isSubtype (.type "AttributeError") (.type "BaseException") = pure true := by rw [isSubtype_type]; kernel_rfl
theorem notTuple_Attr : isSubtype (.type ((Manifest.find? "AttributeError").elim "type" fun x => x.metatype)) (.type "tuple") = pure false := by
  rw [show ((Manifest.find? "AttributeError").elim "type" fun x => x.metatype) = "type" by kernel_rfl, isSubtype_type]; kernel_rfl
theorem sub_TT : isSubtype (.type "TypeError") (.type "TypeError") = pure true := by rw [isSubtype_type]; kernel_rfl
theorem sub_TA : isSubtype (.type "TypeError") (.type "AttributeError") = pure false := by rw [isSubtype_type]; kernel_rfl
local macro_rules | `(tactic| walk_at "compareOp In") => `(tactic| (k_here; (with_reducible show wpAny _ _ (compareOp CmpOp.In (Value.str _ _) (Value.bytes _ _)) _ _ _); (refine in_bytes_raise (by first | rfl | assumption) ?_); intro h' tk' e' x'))
theorem esc_bytes {prog : Program} {w : World} {A : Around} {s : Shared} {p : Program} {loose : List Str} {mean : ExcName → Option Value} {mg mb : Str → Option Value} {Q E : Value → Shared → Prop} {hb : Heap} {outer : List Env}
    (X : (hd.heap_1 w.params).In hb) (T : Top p loose mean mg mb hb) (hdp : A.depth + 1 < recursionLimit) (hfr : A.frames = some outer) (hh : A.handled = none) (G : Gd hb s.heap outer) {b : Array UInt8} {t : Tok} (hz : b.size ≤ 100000) (hl : (Builtin.Bytes.literal b).length ≤ 500000)
    (ret : ∀ e t h' tk' tm, Heap.FlyingW hb outer e (.type "TypeError") (.ref t) h' → h'.TupAt t [.str (Str.ofString "cannot serialize " ++ Builtin.Bytes.literal b ++ Str.ofString " (type bytes)") tm] → s.heap.UpToSlots h' → hb.get? t = none → E (.ref e) { s with heap := h', toks := tk' }) :
    wpAny (model prog w) A (call (.ref 161) [.bytes b t]) Q E s := by
  have X' := Frag.In.keeps X G.stays
  have T' := T.keeps G.stays
  k_dflt (refine' enter [(Str.ofString "text", .bytes b t)] X' T' (Ent.self _) ?k1 ?k2 (Nat.lt_of_le_of_lt (Nat.le_add_right _ _) hdp) ?k3 ?k4 ?k5 ?_ ?c1 ?c2 ?c3 ?c4; (case k1 => k_is); (case k2 => k_is); (case k3 => exact BindsTo.of_eq rfl); (case k4 => exact locs rfl); (case k5 => (dsimp only [List.map]; decide)); (case c1 => exact rfl); (case c2 => exact rfl); (case c3 => exact rfl); (case c4 => decide))
  intro L' h' u' tk' F' N'
  (try dsimp only)
  dsimp only [kstB] at F'
  k_steps
  rename Heap.NewExc _ _ _ _ => x1
  rename Addr => e1
  rename Heap => h1
  obtain ⟨ob, te, he1, hcls1, hd1⟩ := x1.there
  obtain ⟨oL, esL, nL, hoL, hdL, hrL⟩ := F'.ns
  have kp1 : ∀ b o, s.heap.get? b = some o → h1.get? b = some o := fun b o q => x1.keeps _ _ (F'.keep _ _ q)
  have hLn : hb.get? L' = none := Heap.get?_none_of_le (Nat.le_trans G.size F'.above)
  have hfun : h1.FunFrames hb outer := G.frames.of_keeps fun b o q _ => ⟨o, kp1 _ _ q, rfl⟩
  refine' note_first (base := hb) (Around.frames_deeper hfr) ?hl rfl he1 hd1 rfl fun h2 T2 k1 k2 k3 k4 k5 => ?_
  case hl => exact ⟨by (intro z; cases z), ⟨L', oL, rfl, hLn, x1.keeps _ _ hoL, fun vs z => by rw [hdL] at z; cases z⟩, hfun⟩
  have hbn : hb.get? e1 = none := by
    cases q : hb.get? e1 with
    | none => rfl
    | some o => have := F'.keep _ _ (G.stays _ _ q); rw [x1.new] at this; cases this
  have hLe : L' ≠ e1 := fun z => by have q := x1.new; rw [← z, hoL] at q; cases q
  have hTe : T2 ≠ e1 := fun z => by rw [z, he1] at k4; cases k4
  have hTb : hb.get? T2 = none := by
    cases q : hb.get? T2 with
    | none => rfl
    | some o => rw [kp1 _ _ (G.stays _ _ q)] at k4; cases k4
  have hTL : T2 ≠ L' := fun z => by rw [z, x1.keeps _ _ hoL] at k4; cases k4
  have kb : ∀ b o, hb.get? b = some o → h2.get? b = some o := fun b o q => k1 b o (fun hm => by
      rcases List.mem_cons.mp (show b ∈ L' :: outer.filterMap (·.frame) from hm) with z | hm
      · rw [z, hLn] at q; cases q
      · rw [(G.frames.mem hm).1] at q; cases q) (fun z => by rw [z, hbn] at q; cases q) (kp1 _ _ (G.stays _ _ q))
  have hfun2 : h2.FunFrames hb outer := hfun.of_keeps fun b o q z => by
    obtain ⟨sl, q2⟩ := k2 b o (fun w => by rw [w, he1] at q; exact z _ (Option.some.inj q ▸ hd1)) q
    exact ⟨_, q2, rfl⟩
  obtain ⟨oT, ts, gT, hdT, h3T⟩ := k5
  have kup : s.heap.UpToSlots h2 := fun b o q z => k2 b o (fun w => by have q2 := F'.keep _ _ q; rw [w, x1.new] at q2; cases q2) (kp1 _ _ q)
  have hse : s.heap.get? e1 = none := by
    cases q : s.heap.get? e1 with
    | none => rfl
    | some o => have := F'.keep _ _ q; rw [x1.new] at this; cases this
  have hsT : s.heap.get? T2 = none := by
    cases q : s.heap.get? T2 with
    | none => rfl
    | some o => rw [kp1 _ _ q] at k4; cases k4
  generalize hhq : minus (minus (trunc h2 s.heap.objs.size) e1) T2 = hq
  have hq1 : ∀ b o, b < s.heap.objs.size → b ≠ e1 → b ≠ T2 → h2.get? b = some o → hq.get? b = some o := fun b o z z1 z2 q => by
    rw [← hhq, minus_ne z2, minus_ne z1, trunc_get z]; exact q
  have hq2 : ∀ b o, hq.get? b = some o → h2.get? b = some o := fun b o q => by
    rw [← hhq] at q; exact (trunc_old (minus_old (minus_old q))).2
  have hqs : hq.objs.size ≤ s.heap.objs.size := by rw [← hhq, minus_size, minus_size]; exact trunc_size _ _
  have hqe : hq.get? e1 = none := by rw [← hhq, minus_ne hTe.symm, minus_at]
  have hqT : hq.get? T2 = none := by rw [← hhq, minus_at]
  have hbq : hb.StaysIn hq := fun b o q => hq1 b o (Heap.lt_size (G.stays _ _ q)) (fun z => by rw [z, hbn] at q; cases q) (fun z => by rw [z, hTb] at q; cases q) (kb _ _ q)
  have squ : s.heap.UpToSlots hq := fun b o q z => by
    obtain ⟨sl, q2⟩ := kup b o q z
    exact ⟨sl, hq1 b _ (Heap.lt_size q) (fun w => by rw [w, hse] at q; cases q) (fun w => by rw [w, hsT] at q; cases q) q2⟩
  have hLq : hq.get? L' = none := Heap.get?_none_of_le (Nat.le_trans hqs F'.above)
  have Fh := Fr.late (hb := hq) (h1 := h1) (h2 := h2) ⟨⟨oL, esL, nL, x1.keeps _ _ hoL, hdL, hrL⟩, (fun b o q => kp1 b o q), F'.above⟩ hqs hLe hq2 k2
  have Nh : News hq L' h2 ((e1, Obj.mapFields (·.setIfInBounds 1 (.ref T2)) ob) :: (T2, oT) :: []) := fun p hp => by
    rcases List.mem_cons.mp hp with rfl | hp
    · exact ⟨k3, hLe.symm, hqe⟩
    · rw [List.mem_singleton.mp hp]; exact ⟨gT, hTL, hqT⟩
  have fq : hq.FunFrames hb outer := G.frames.of_keeps fun b o q z => by
    obtain ⟨sl, q2⟩ := squ b o q z
    exact ⟨_, q2, rfl⟩
  have Xq := Frag.In.keeps X hbq
  have Tq := T.keeps hbq
  have habove := F'.above
  clear kp1 F' N' hfun hoL X' T'
  refine wpAny_handleBy_tup2 (X := "TypeError") (b1 := true) (b2 := false) PySem.F.isExc_TypeError PySem.F.notTuple_TypeError isExc_Attr notTuple_Attr sub_TT sub_TA ?_
  k_steps
  · rename News _ _ _ _ => Nz
    exact ⟨_, Nz.get (.head _), rfl, _, rfl⟩
  · rename News _ _ _ _ => Nz
    exact ⟨_, Nz.get (.tail _ (.head _)), (Obj.cls_mapFields ..).trans hcls1⟩
  rename News _ _ _ _ => Nz
  rename Fr _ _ _ _ => Fz
  rename Heap => hz3
  refine wpAny_setFlight_none (Nz.get (.tail _ (.head _))) (Obj.data_mapFields hd1 _) (by rfl) (Nz.get (.tail _ (.tail _ (.head _)))) hdT h3T ?_
  have kz4 : ∀ b o, b ≠ T2 → hz3.get? b = some o → (hz3.update T2 (Obj.mapFields (·.setIfInBounds 3 Value.none))).get? b = some o := fun b o z q => (Heap.get?_update_ne _ _ _ _ z).trans q
  generalize hz4 : hz3.update T2 _ = h4 at *
  have F4 := Fr.late (h1 := hz3) (h2 := h4) Fz (Nat.le_refl _) hTL.symm (fun b o q => kz4 b o (fun z => by rw [z, hqT] at q; cases q) (Fz.keep _ _ q)) (fun b o z q => ⟨o.slots, kz4 b o z q⟩)
  have N4 : News hq L' h4 ((e1, Obj.mapFields (·.setIfInBounds 1 (.ref T2)) ob) :: []) := fun p hp => by
    rw [List.mem_singleton.mp hp]
    have hz := Nz (e1, _) (.tail _ (.head _))
    exact ⟨kz4 _ _ hTe.symm hz.1, hz.2⟩
  clear Nz Fz
  refine wpAny_passesOwnAt (by passes_own) ?_
  k_steps
  rename Fr _ _ _ _ => F5
  rename News _ _ _ _ => N5
  obtain ⟨oL5, esL5, nL5, gL5, hdL5, -⟩ := F5.ns
  refine' raise51 (outer := _ :: outer) X T ?dp ?fr (e1 := e1) ?hd ?gd hbn ?g1 (Obj.data_mapFields hd1 (·.setIfInBounds 1 (.ref T2))) (by rfl) hz hl ?ret
  case fr => exact Around.frames_deeper hfr
  case dp => exact dep (m := 1) hdp (by decide)
  case hd => exact rfl
  case g1 => exact N5.get (.head _)
  case gd => exact ⟨fun b o q => F5.keep _ _ (hbq _ _ q), Nat.le_trans G.size (Nat.le_trans habove (Nat.le_of_lt (Heap.lt_size gL5))), ⟨by (intro z; cases z), ⟨L', oL5, rfl, hLn, gL5, fun vs z => by rw [hdL5] at z; cases z⟩, fq.of_keeps fun b o q _ => ⟨o, F5.keep _ _ q, rfl⟩⟩⟩
  intro e t9 h9 tk9 tm fl9 ta9 up9 bt9
  refine wpAny_leaves_onW (Around.frames_deeper hfr) rfl fl9 fun h10 fl10 up10 => ?_
  exact ret e t9 h10 _ _ fl10 (Heap.TupAt.of_slots ta9 up10) (((squ.trans (Heap.UpToSlots.of_keeps F5.keep)).trans up9).trans up10) bt9
end Mine
end
section
local macro_rules | `(tactic| walk_at "getAttr ref") => `(tactic| (k_here; k_dflt (refine' get_own ?k1 ?k2 ?k3 ?k4 ?k5 ?k6 ?k7 ?k8 ?k9 ?_; (case k1 => k_asm); (case k2 => k_asm); (case k3 => exact Mine.inst_of (by assumption) (by assumption) (by assumption)); (case k4 => k_is); (case k5 => k_is); (case k6 => k_is); (case k7 => k_is); (case k8 => assumption); (case k9 => k_handed))))
section
local macro_rules | `(tactic| walk_at "getMethod ref") => `(tactic| (k_here; k_dflt (refine' kmu_own ?k1 ?k2 ?k3 ?k4 ?k5 ?_; (case k1 => k_asm); (case k2 => k_asm); (case k3 => exact Mine.inst_of (by assumption) (by assumption) (by assumption)); (case k4 => k_is); (case k5 => k_is))))
local macro_rules | `(tactic| walk_at "callWith ref") => `(tactic| (k_here; k_dflt (refine Mine.callWith_bm (Mine.bm_of (by assumption) (by assumption)) ?_)))
local macro_rules | `(tactic| walk_at "And") => `(tactic| ((with_reducible show Mine.BmAt _ _ _ _ ∧ _); refine ⟨Mine.bm_of (by assumption) (by assumption), ?_⟩; try dsimp only [List.nil_append, List.cons_append]))
section
theorem Mine.anewCm : True := by w_top off; trivial
namespace Mine
theorem esc_len : ∀ l : List Nat, (l.flatMap esc).length ≤ 5 * l.length
  | [] => Nat.zero_le _
  | k :: r => by
    have h := esc_len r
    rw [List.flatMap_cons, List.length_append, List.length_cons]
    have : (esc k).length ≤ 5 := by
      unfold esc
      split; · decide
      split; · decide
      split; · decide
      split; · decide
      show 1 ≤ 5; decide
    omega
theorem comment_spec {prog : Program} {w : World} {A : Around} {s : Shared} {p : Program} {loose : List Str} {mean : ExcName → Option Value} {mg mb : Str → Option Value} {Q E : Value → Shared → Prop} {hb : Heap}
    (X0 : (hd.heap_1 w.params).In hb) (T0 : Top p loose mean mg mb hb) (hdp : A.depth + 1 < recursionLimit) (hh : A.handled = none) {x dx q out : Addr} {es : List DictEntry} {n c : Nat} {xs : Array Value} {cs : List Nat} {t : Tok}
    (k0 : Kp hb s.heap) (hbo : hb.get? out = none) (gx : s.heap.get? x = some (instObj 150 dx)) (gd : s.heap.get? dx = some (dictOf es n)) (hW : Wd es q) (gq : s.heap.get? q = some (bmObj "list.append" (.ref out))) (go : s.heap.get? out = some (W.listOf xs c)) (hxs : xs.size ≤ 10000) (hn : cs.length ≤ 1000)
    (ret : ∀ t1 t2 h' tk', KpBut out s.heap h' → h'.get? out = some (W.listOf ((xs.push (.str (st ([60, 33, 45, 45] ++ cs.flatMap esc ++ [45, 45, 62])) t1)).push (.str (st [10]) t2)) (c + 1 + 1)) → Q .none { s with heap := h', toks := tk' }) :
    wpAny (model prog w) A (call (.ref 140) [.ref x, .str (st cs) t]) Q E s := by
  have X := Frag.In.keeps X0 (minus_keeps k0 hbo)
  have T := T0.keeps (minus_keeps k0 hbo)
  have B := Ent.minus go
  have hxo : x ≠ out := fun e => by rw [e, go] at gx; cases gx
  have hdo : dx ≠ out := fun e => by rw [e, go] at gd; have e2 := congrArg Obj.cls (Option.some.inj gd); injection e2 with e3; exact absurd e3 (by decide)
  have hqo : q ≠ out := fun e => by rw [e, go] at gq; have e2 := congrArg Obj.cls (Option.some.inj gq); injection e2 with e3; exact absurd e3 (by decide)
  have gx' : (minus s.heap out).get? x = some (instObj 150 dx) := (minus_ne hxo).trans gx
  have gd' : (minus s.heap out).get? dx = some (dictOf es n) := (minus_ne hdo).trans gd
  have gq' : (minus s.heap out).get? q = some (bmObj "list.append" (.ref out)) := (minus_ne hqo).trans gq
  obtain ⟨w1, w2, w3, w4, ⟨t5, w5⟩, w6, w7⟩ := hW
  k_dflt (refine' enter [(Str.ofString "self", .ref x), (Str.ofString "text", .str (st cs) t)] X T B ?k1 ?k2 (Nat.lt_of_le_of_lt (Nat.le_add_right _ _) hdp) ?k3 ?k4 ?k5 ?_ ?c1 ?c2 ?c3 ?c4; (case k1 => k_is); (case k2 => k_is); (case k3 => exact BindsTo.of_eq rfl); (case k4 => exact locs rfl); (case k5 => (dsimp only [List.map]; decide)); (case c1 => exact rfl); (case c2 => exact rfl); (case c3 => exact rfl); (case c4 => decide))
  intro L' h' u' tk' F' N'
  refine wpAny_mono (E := Fa) ?_ (fun _ _ x => x) (fun _ _ x => x.elim)
  (try dsimp only)
  dsimp only [kstB] at F'
  k_steps
  rename Fr _ _ _ _ => F2
  refine esc_spec (A := A.deeper _) (Frag.In.keeps X F2.keep) (T.keeps F2.keep) (dep (m := 1) hdp (by decide)) hh hn fun t6 h6 tk6 k6 => ?_
  have F6 := Fr.kp F2 k6
  have N6 := News.kp (by assumption) k6
  clear F2
  k_steps
  have hel : (st (cs.flatMap esc)).length ≤ 5000 := by rw [st_len]; have := esc_len cs; omega
  refine SB.field_str (fun t7 k7 => ?_) (Nat.le_trans hel (by decide))
  dsimp only
  have e1 : Str.empty ++ Str.ofString "<!--" ++ st (cs.flatMap esc) = st ([60, 33, 45, 45] ++ cs.flatMap esc) := by
    rw [show Str.empty ++ Str.ofString "<!--" = st [60, 33, 45, 45] by decide, st_app]
  rw [e1]
  have hel2 : (cs.flatMap esc).length ≤ 5000 := by rw [st_len] at hel; exact hel
  have hl1 : (st ([60, 33, 45, 45] ++ cs.flatMap esc)).length ≤ 5004 := by rw [st_len, List.length_append]; show 4 + _ ≤ _; omega
  refine ⟨Nat.le_trans hl1 (by decide), ?_⟩
  k_steps
  rename Fr _ _ _ _ => F7
  rename News _ _ _ _ => N7
  refine call_bm (bm_of F7 gq') (News.get N7 (.head _)) (Nat.le_trans hxs (by decide)) fun h8 sb8 go8 => ?_
  have F8 := Fr.other F7 N7 (.head _) sb8
  have N8 := News.upd N7 (.head (fun _ h => nomatch h)) go8 sb8
  clear F7 N7
  k_steps
  rename Fr _ _ _ _ => F9
  rename News _ _ _ _ => N9
  refine call_bm (bm_of F9 gq') (News.get N9 (.head _)) (by rw [Array.size_push]; exact Nat.le_trans (Nat.succ_le_succ hxs) (by decide)) fun h10 sb10 go10 => ?_
  have F10 := Fr.other F9 N9 (.head _) sb10
  k_steps
  dsimp only
  have e2 : st ([60, 33, 45, 45] ++ cs.flatMap esc) ++ Str.ofString "-->" = st ([60, 33, 45, 45] ++ cs.flatMap esc ++ [45, 45, 62]) := by rw [show Str.ofString "-->" = st [45, 45, 62] by decide, st_app]
  have e3 : Str.ofString "\n" = st [10] := by decide
  exact ret _ _ h10 _ (KpBut.of F10.keep) (by rw [← e2, ← e3]; exact go10)
end Mine
end
section
local macro_rules | `(tactic| walk_at "zz0") => `(tactic| skip)
theorem Mine.anewPi : True := by w_top off; trivial
namespace Mine
theorem truthy_st {prog : Program} {w : World} {A : Around} {E : Value → Shared → Prop} {s : Shared} {l : List Nat} {t : Tok} {b : Bool} {Q : Bool → Shared → Prop} (hb : (!decide (l = [])) = b) (hl : l.length ≤ 1000) (h : ∀ tk, Q b { s with toks := tk }) : wpAny (model prog w) A (truthy (.str (st l) t)) Q E s := by
  refine P.truthy_str (by rw [st_len]; omega) ?_
  rw [st_len]
  have e : ((l.length : Int) != 0) = b := by
    rw [← hb]
    cases l with
    | nil => rfl
    | cons a r => simp; omega
  rw [e]
  exact h _
theorem pi_spec {prog : Program} {w : World} {A : Around} {s : Shared} {p : Program} {loose : List Str} {mean : ExcName → Option Value} {mg mb : Str → Option Value} {Q E : Value → Shared → Prop} {hb : Heap}
    (X0 : (hd.heap_1 w.params).In hb) (T0 : Top p loose mean mg mb hb) (hdp : A.depth + 1 < recursionLimit) (hh : A.handled = none) {x dx q out : Addr} {es : List DictEntry} {n c : Nat} {xs : Array Value} {cs : List Nat} {t tt : Tok}
    (k0 : Kp hb s.heap) (hbo : hb.get? out = none) (gx : s.heap.get? x = some (instObj 150 dx)) (gd : s.heap.get? dx = some (dictOf es n)) (hW : Wd es q) (gq : s.heap.get? q = some (bmObj "list.append" (.ref out))) (go : s.heap.get? out = some (W.listOf xs c)) (hxs : xs.size ≤ 10000) (hn : cs.length ≤ 1000) (hne : cs ≠ [])
    (ret : ∀ t1 t2 h' tk', KpBut out s.heap h' → h'.get? out = some (W.listOf ((xs.push (.str (st ([60, 63, 116, 32] ++ cs.flatMap esc ++ [63, 62])) t1)).push (.str (st [10]) t2)) (c + 1 + 1)) → Q .none { s with heap := h', toks := tk' }) :
    wpAny (model prog w) A (call (.ref 147) [.ref x, .str (Str.ofString "t") tt, .str (st cs) t]) Q E s := by
  have X := Frag.In.keeps X0 (minus_keeps k0 hbo)
  have T := T0.keeps (minus_keeps k0 hbo)
  have B := Ent.minus go
  have hxo : x ≠ out := fun e => by rw [e, go] at gx; cases gx
  have hdo : dx ≠ out := fun e => by rw [e, go] at gd; have e2 := congrArg Obj.cls (Option.some.inj gd); injection e2 with e3; exact absurd e3 (by decide)
  have hqo : q ≠ out := fun e => by rw [e, go] at gq; have e2 := congrArg Obj.cls (Option.some.inj gq); injection e2 with e3; exact absurd e3 (by decide)
  have gx' : (minus s.heap out).get? x = some (instObj 150 dx) := (minus_ne hxo).trans gx
  have gd' : (minus s.heap out).get? dx = some (dictOf es n) := (minus_ne hdo).trans gd
  have gq' : (minus s.heap out).get? q = some (bmObj "list.append" (.ref out)) := (minus_ne hqo).trans gq
  obtain ⟨w1, w2, w3, w4, ⟨t5, w5⟩, w6, w7⟩ := hW
  k_dflt (refine' enter [(Str.ofString "self", .ref x), (Str.ofString "target", .str (Str.ofString "t") tt), (Str.ofString "data", .str (st cs) t)] X T B ?k1 ?k2 (Nat.lt_of_le_of_lt (Nat.le_add_right _ _) hdp) ?k3 ?k4 ?k5 ?_ ?c1 ?c2 ?c3 ?c4; (case k1 => k_is); (case k2 => k_is); (case k3 => exact BindsTo.of_eq rfl); (case k4 => exact locs rfl); (case k5 => (dsimp only [List.map]; decide)); (case c1 => exact rfl); (case c2 => exact rfl); (case c3 => exact rfl); (case c4 => decide))
  intro L' h' u' tk' F' N'
  refine wpAny_mono (E := Fa) ?_ (fun _ _ x => x) (fun _ _ x => x.elim)
  (try dsimp only)
  dsimp only [kstB] at F'
  k_steps
  refine truthy_st (b := true) (by simp [hne]) (by omega) fun tk1 => ?_
  k_steps
  rename Fr _ _ _ _ => F2
  refine esc_spec (A := A.deeper _) (Frag.In.keeps X F2.keep) (T.keeps F2.keep) (dep (m := 1) hdp (by decide)) hh hn fun t6 h6 tk6 k6 => ?_
  have F6 := Fr.kp F2 k6
  have N6 := News.kp (by assumption) k6
  clear F2
  k_steps
  have hel : (st (cs.flatMap esc)).length ≤ 5000 := by rw [st_len]; have := esc_len cs; omega
  refine SB.field_str (fun t7 k7 => ?_) (Nat.le_trans hel (by decide))
  dsimp only
  have e1 : Str.empty ++ Str.ofString "<?" ++ Str.ofString "t" ++ Str.ofString " " ++ st (cs.flatMap esc) = st ([60, 63, 116, 32] ++ cs.flatMap esc) := by
    rw [show Str.empty ++ Str.ofString "<?" ++ Str.ofString "t" ++ Str.ofString " " = st [60, 63, 116, 32] by decide, st_app]
  rw [e1]
  have hel2 : (cs.flatMap esc).length ≤ 5000 := by rw [st_len] at hel; exact hel
  have hl1 : (st ([60, 63, 116, 32] ++ cs.flatMap esc)).length ≤ 5004 := by rw [st_len, List.length_append]; show 4 + _ ≤ _; omega
  refine ⟨Nat.le_trans hl1 (by decide), ?_⟩
  k_steps
  rename Fr _ _ _ _ => F7
  rename News _ _ _ _ => N7
  refine call_bm (bm_of F7 gq') (News.get N7 (.head _)) (Nat.le_trans hxs (by decide)) fun h8 sb8 go8 => ?_
  have F8 := Fr.other F7 N7 (.head _) sb8
  have N8 := News.upd N7 (.head (fun _ h => nomatch h)) go8 sb8
  clear F7 N7
  k_steps
  rename Fr _ _ _ _ => F9
  rename News _ _ _ _ => N9
  refine call_bm (bm_of F9 gq') (News.get N9 (.head _)) (by rw [Array.size_push]; exact Nat.le_trans (Nat.succ_le_succ hxs) (by decide)) fun h10 sb10 go10 => ?_
  have F10 := Fr.other F9 N9 (.head _) sb10
  k_steps
  dsimp only
  have e2 : st ([60, 63, 116, 32] ++ cs.flatMap esc) ++ Str.ofString "?>" = st ([60, 63, 116, 32] ++ cs.flatMap esc ++ [63, 62]) := by rw [show Str.ofString "?>" = st [63, 62] by decide, st_app]
  have e3 : Str.ofString "\n" = st [10] := by decide
  exact ret _ _ h10 _ (KpBut.of F10.keep) (by rw [← e2, ← e3]; exact go10)
theorem pi_nil {prog : Program} {w : World} {A : Around} {s : Shared} {p : Program} {loose : List Str} {mean : ExcName → Option Value} {mg mb : Str → Option Value} {Q E : Value → Shared → Prop} {hb : Heap}
    (X0 : (hd.heap_1 w.params).In hb) (T0 : Top p loose mean mg mb hb) (hdp : A.depth + 1 < recursionLimit) (hh : A.handled = none) {x dx q out : Addr} {es : List DictEntry} {n c : Nat} {xs : Array Value} {t tt : Tok}
    (k0 : Kp hb s.heap) (hbo : hb.get? out = none) (gx : s.heap.get? x = some (instObj 150 dx)) (gd : s.heap.get? dx = some (dictOf es n)) (hW : Wd es q) (gq : s.heap.get? q = some (bmObj "list.append" (.ref out))) (go : s.heap.get? out = some (W.listOf xs c)) (hxs : xs.size ≤ 10000)
    (ret : ∀ t1 t2 h' tk', KpBut out s.heap h' → h'.get? out = some (W.listOf ((xs.push (.str (st ([60, 63, 116, 63, 62])) t1)).push (.str (st [10]) t2)) (c + 1 + 1)) → Q .none { s with heap := h', toks := tk' }) :
    wpAny (model prog w) A (call (.ref 147) [.ref x, .str (Str.ofString "t") tt, .bytes #[] t]) Q E s := by
  have X := Frag.In.keeps X0 (minus_keeps k0 hbo)
  have T := T0.keeps (minus_keeps k0 hbo)
  have B := Ent.minus go
  have hxo : x ≠ out := fun e => by rw [e, go] at gx; cases gx
  have hdo : dx ≠ out := fun e => by rw [e, go] at gd; have e2 := congrArg Obj.cls (Option.some.inj gd); injection e2 with e3; exact absurd e3 (by decide)
  have hqo : q ≠ out := fun e => by rw [e, go] at gq; have e2 := congrArg Obj.cls (Option.some.inj gq); injection e2 with e3; exact absurd e3 (by decide)
  have gx' : (minus s.heap out).get? x = some (instObj 150 dx) := (minus_ne hxo).trans gx
  have gd' : (minus s.heap out).get? dx = some (dictOf es n) := (minus_ne hdo).trans gd
  have gq' : (minus s.heap out).get? q = some (bmObj "list.append" (.ref out)) := (minus_ne hqo).trans gq
  obtain ⟨w1, w2, w3, w4, ⟨t5, w5⟩, w6, w7⟩ := hW
  k_dflt (refine' enter [(Str.ofString "self", .ref x), (Str.ofString "target", .str (Str.ofString "t") tt), (Str.ofString "data", .bytes #[] t)] X T B ?k1 ?k2 (Nat.lt_of_le_of_lt (Nat.le_add_right _ _) hdp) ?k3 ?k4 ?k5 ?_ ?c1 ?c2 ?c3 ?c4; (case k1 => k_is); (case k2 => k_is); (case k3 => exact BindsTo.of_eq rfl); (case k4 => exact locs rfl); (case k5 => (dsimp only [List.map]; decide)); (case c1 => exact rfl); (case c2 => exact rfl); (case c3 => exact rfl); (case c4 => decide))
  intro L' h' u' tk' F' N'
  refine wpAny_mono (E := Fa) ?_ (fun _ _ x => x) (fun _ _ x => x.elim)
  (try dsimp only)
  dsimp only [kstB] at F'
  k_steps
  refine truthy_bytes (by decide) ?_
  k_steps
  rename Fr _ _ _ _ => F7
  rename News _ _ _ _ => N7
  refine call_bm (bm_of F7 gq') (News.get N7 (.head _)) (Nat.le_trans hxs (by decide)) fun h8 sb8 go8 => ?_
  have F8 := Fr.other F7 N7 (.head _) sb8
  have N8 := News.upd N7 (.head (fun _ h => nomatch h)) go8 sb8
  clear F7 N7
  k_steps
  rename Fr _ _ _ _ => F9
  rename News _ _ _ _ => N9
  refine call_bm (bm_of F9 gq') (News.get N9 (.head _)) (by rw [Array.size_push]; exact Nat.le_trans (Nat.succ_le_succ hxs) (by decide)) fun h10 sb10 go10 => ?_
  have F10 := Fr.other F9 N9 (.head _) sb10
  k_steps
  dsimp only
  have e3 : Str.ofString "\n" = st [10] := by decide
  have e2 : Str.empty ++ Str.ofString "<?" ++ Str.ofString "t" ++ Str.ofString "?>" = st [60, 63, 116, 63, 62] := by decide
  exact ret _ _ h10 _ (KpBut.of F10.keep) (by rw [← e2, ← e3]; exact go10)
end Mine
end
section
theorem Mine.anewRc : True := by w_top off; trivial
namespace Mine
theorem comment_bytes {prog : Program} {w : World} {A : Around} {s : Shared} {p : Program} {loose : List Str} {mean : ExcName → Option Value} {mg mb : Str → Option Value} {Q E : Value → Shared → Prop} {hb : Heap} {outer : List Env}
    (X0 : (hd.heap_1 w.params).In hb) (T0 : Top p loose mean mg mb hb) (hdp : A.depth + 2 < recursionLimit) (hfr : A.frames = some outer) (hh : A.handled = none) (G : Gd hb s.heap outer) {x dx q out : Addr} {es : List DictEntry} {n : Nat} {b : Array UInt8} {t tt : Tok}
    (gx : s.heap.get? x = some (instObj 150 dx)) (gd : s.heap.get? dx = some (dictOf es n)) (hW : Wd es q) (gq : s.heap.get? q = some (bmObj "list.append" (.ref out))) (hz : b.size ≤ 100000) (hl : (Builtin.Bytes.literal b).length ≤ 500000) 
    (ret : ∀ e t h' tk' tm, Heap.FlyingW hb outer e (.type "TypeError") (.ref t) h' → h'.TupAt t [.str (Str.ofString "cannot serialize " ++ Builtin.Bytes.literal b ++ Str.ofString " (type bytes)") tm] → s.heap.UpToSlots h' → hb.get? t = none → E (.ref e) { s with heap := h', toks := tk' }) :
    wpAny (model prog w) A (call (.ref 140) [.ref x, .bytes b t]) Q E s := by
  have X := Frag.In.keeps X0 G.stays
  have T := T0.keeps G.stays
  obtain ⟨w1, w2, w3, w4, ⟨t5, w5⟩, w6, w7⟩ := hW
  k_dflt (refine' enter [(Str.ofString "self", .ref x), (Str.ofString "text", .bytes b t)] X T (Ent.self _) ?k1 ?k2 (Nat.lt_of_le_of_lt (Nat.le_add_right _ _) hdp) ?k3 ?k4 ?k5 ?_ ?c1 ?c2 ?c3 ?c4; (case k1 => k_is); (case k2 => k_is); (case k3 => exact BindsTo.of_eq rfl); (case k4 => exact locs rfl); (case k5 => (dsimp only [List.map]; decide)); (case c1 => exact rfl); (case c2 => exact rfl); (case c3 => exact rfl); (case c4 => decide))
  intro L' h' u' tk' F' N'
  (try dsimp only)
  dsimp only [kstB] at F'
  k_steps
  rename Fr _ _ _ _ => F2
  obtain ⟨oL5, esL5, nL5, gL5, hdL5, -⟩ := F2.ns
  have hLn : hb.get? L' = none := Heap.get?_none_of_le (Nat.le_trans G.size F2.above)
  refine' esc_bytes (outer := _ :: outer) X0 T0 ?dp ?fr ?hd ?gd hz hl ?ret
  case fr => exact Around.frames_deeper hfr
  case dp => exact dep (m := 2) hdp (by decide)
  case hd => exact hh
  case gd => exact ⟨fun b o q => F2.keep _ _ (G.stays _ _ q), Nat.le_trans G.size (Nat.le_trans F2.above (Nat.le_of_lt (Heap.lt_size gL5))), ⟨by (intro z; cases z), ⟨L', oL5, rfl, hLn, gL5, fun vs z => by rw [hdL5] at z; cases z⟩, G.frames.of_keeps fun b o q _ => ⟨o, F2.keep _ _ q, rfl⟩⟩⟩
  intro e t9 h9 tk9 tm fl9 ta9 up9 bt9
  refine wpAny_leaves_onW (Around.frames_deeper hfr) rfl fl9 fun h10 fl10 up10 => ?_
  exact ret e t9 h10 _ _ fl10 (Heap.TupAt.of_slots ta9 up10) (((Heap.UpToSlots.of_keeps F2.keep).trans up9).trans up10) bt9
theorem pi_bytes {prog : Program} {w : World} {A : Around} {s : Shared} {p : Program} {loose : List Str} {mean : ExcName → Option Value} {mg mb : Str → Option Value} {Q E : Value → Shared → Prop} {hb : Heap} {outer : List Env}
    (X0 : (hd.heap_1 w.params).In hb) (T0 : Top p loose mean mg mb hb) (hdp : A.depth + 2 < recursionLimit) (hfr : A.frames = some outer) (hh : A.handled = none) (G : Gd hb s.heap outer) {x dx q out : Addr} {es : List DictEntry} {n : Nat} {b : Array UInt8} {t tt : Tok}
    (gx : s.heap.get? x = some (instObj 150 dx)) (gd : s.heap.get? dx = some (dictOf es n)) (hW : Wd es q) (gq : s.heap.get? q = some (bmObj "list.append" (.ref out))) (hz : b.size ≤ 100000) (hl : (Builtin.Bytes.literal b).length ≤ 500000) (hne : 0 < b.size)
    (ret : ∀ e t h' tk' tm, Heap.FlyingW hb outer e (.type "TypeError") (.ref t) h' → h'.TupAt t [.str (Str.ofString "cannot serialize " ++ Builtin.Bytes.literal b ++ Str.ofString " (type bytes)") tm] → s.heap.UpToSlots h' → hb.get? t = none → E (.ref e) { s with heap := h', toks := tk' }) :
    wpAny (model prog w) A (call (.ref 147) [.ref x, .str (Str.ofString "t") tt, .bytes b t]) Q E s := by
  have X := Frag.In.keeps X0 G.stays
  have T := T0.keeps G.stays
  obtain ⟨w1, w2, w3, w4, ⟨t5, w5⟩, w6, w7⟩ := hW
  k_dflt (refine' enter [(Str.ofString "self", .ref x), (Str.ofString "target", .str (Str.ofString "t") tt), (Str.ofString "data", .bytes b t)] X T (Ent.self _) ?k1 ?k2 (Nat.lt_of_le_of_lt (Nat.le_add_right _ _) hdp) ?k3 ?k4 ?k5 ?_ ?c1 ?c2 ?c3 ?c4; (case k1 => k_is); (case k2 => k_is); (case k3 => exact BindsTo.of_eq rfl); (case k4 => exact locs rfl); (case k5 => (dsimp only [List.map]; decide)); (case c1 => exact rfl); (case c2 => exact rfl); (case c3 => exact rfl); (case c4 => decide))
  intro L' h' u' tk' F' N'
  (try dsimp only)
  dsimp only [kstB] at F'
  k_steps
  rename Fr _ _ _ _ => F2
  obtain ⟨oL5, esL5, nL5, gL5, hdL5, -⟩ := F2.ns
  have hLn : hb.get? L' = none := Heap.get?_none_of_le (Nat.le_trans G.size F2.above)
  refine' esc_bytes (outer := _ :: outer) X0 T0 ?dp ?fr ?hd ?gd hz hl ?ret
  case fr => exact Around.frames_deeper hfr
  case dp => exact dep (m := 2) hdp (by decide)
  case hd => exact hh
  case gd => exact ⟨fun b o q => F2.keep _ _ (G.stays _ _ q), Nat.le_trans G.size (Nat.le_trans F2.above (Nat.le_of_lt (Heap.lt_size gL5))), ⟨by (intro z; cases z), ⟨L', oL5, rfl, hLn, gL5, fun vs z => by rw [hdL5] at z; cases z⟩, G.frames.of_keeps fun b o q _ => ⟨o, F2.keep _ _ q, rfl⟩⟩⟩
  intro e t9 h9 tk9 tm fl9 ta9 up9 bt9
  refine wpAny_leaves_onW (Around.frames_deeper hfr) rfl fl9 fun h10 fl10 up10 => ?_
  exact ret e t9 h10 _ _ fl10 (Heap.TupAt.of_slots ta9 up10) (((Heap.UpToSlots.of_keeps F2.keep).trans up9).trans up10) bt9
  exfalso
  omega
end Mine
end
end
local macro_rules | `(tactic| walk_at "getMethod ref") => `(tactic| (k_here; k_dflt (refine' method_inst ?k1 ?k2 ?k3 ?k4 ?k5 ?k6 ?k7 ?_; (case k1 => k_asm); (case k2 => k_asm); (case k3 => first | exact InstAt.of_news (by assumption) (by k_mem) (by k_mem) | exact Mine.inst_of (by assumption) (by assumption) (by assumption)); (case k4 => k_is); (case k5 => k_is); (case k6 => k_is); (case k7 => assumption))))
section
theorem Mine.anewRg : True := by w_top off; trivial
namespace Mine
theorem gd_under {A : Around} {hb g h : Heap} {outer : List Env} {L a : Addr} {m : Str → Option Value} {name : Str} {scope : Scope} {cd : Value} (K : Below A hb outer g) (F : Fr g L h m) (hk : scope.kind = .function) :
    Gd (hideAll h ((envOf name scope L a cd :: outer).filterMap (·.frame))) h (envOf name scope L a cd :: outer) ∧ hb.StaysIn (hideAll h ((envOf name scope L a cd :: outer).filterMap (·.frame))) ∧
      ∀ b o, h.get? b = some o → b ∉ (envOf name scope L a cd :: outer).filterMap (·.frame) → (hideAll h ((envOf name scope L a cd :: outer).filterMap (·.frame))).get? b = some o := by
  have K' := K.push (name := name) (a := a) (cd := cd) F hk
  have hin : ∀ env ∈ (envOf name scope L a cd :: outer), ∀ b, env.frame = some b → b ∈ (envOf name scope L a cd :: outer).filterMap (·.frame) := fun env he b hb => List.mem_filterMap.mpr ⟨env, he, hb⟩
  exact ⟨⟨fun b o q => of_hideAll _ q, Nat.le_of_eq (hideAll_size _ _), funFrames_hide K'.frames hin⟩, fun b o q => hideAll_get _ (K'.stays b o q) (fun hm => by
    rw [(K'.frames.mem hm).1] at q; cases q), fun b o q nm => hideAll_get _ q nm⟩
theorem refusal_spec {prog : Program} {w : World} {A : Around} {s : Shared} {p : Program} {loose : List Str} {mean : ExcName → Option Value} {mg mb : Str → Option Value} {Q E : Value → Shared → Prop} {hb : Heap} {outer : List Env}
    (X0 : (hd.heap_1 w.params).In hb) (T0 : Top p loose mean mg mb hb) (hdp : A.depth + 3 < recursionLimit) (hu : A.units ≤ 200) (hfr : A.frames = some outer) (hh : A.handled = none) (G : Gd hb s.heap outer) (D : PySem.W.KtsDicts (outer.filterMap (·.frame)) s.heap) {x dx q out : Addr} {es : List DictEntry} {n : Nat} {b : Array UInt8} {t u : Tok} {k : Int}
    (gx : s.heap.get? x = some (instObj 150 dx)) (gd : s.heap.get? dx = some (dictOf es n)) (hW : Wd es q) (gq : s.heap.get? q = some (bmObj "list.append" (.ref out))) (hz : b.size ≤ 100000) (hl : (Builtin.Bytes.literal b).length ≤ 500000) (hne : k = 2 ∨ 0 < b.size)
    (ret : ∀ tm g' h' tk', PySem.W.KtsTurn (outer.filterMap (·.frame)) s.heap g' → g'.StaysIn h' → Q (.str (Str.ofString "cannot serialize " ++ Builtin.Bytes.literal b ++ Str.ofString " (type bytes)") tm) { s with heap := h', toks := tk' }) :
    wpAny (model prog w) A (call (.ref 270) [.ref x, .int k u, .bytes b t]) Q E s := by
  have X := Frag.In.keeps X0 G.stays
  have T := T0.keeps G.stays
  have hW' := hW
  obtain ⟨w1, w2, w3, w4, ⟨t5, w5⟩, w6, w7⟩ := hW
  have K : Below A hb outer s.heap := ⟨hfr, G.stays, G.frames⟩
  k_dflt (refine' enter [(Str.ofString "writer", .ref x), (Str.ofString "kind", .int k u), (Str.ofString "octets", .bytes b t)] X T (Ent.self _) ?k1 ?k2 (Nat.lt_of_le_of_lt (Nat.le_add_right _ _) hdp) ?k3 ?k4 ?k5 ?_ ?c1 ?c2 ?c3 ?c4; (case k1 => k_is); (case k2 => k_is); (case k3 => exact BindsTo.of_eq rfl); (case k4 => exact locs rfl); (case k5 => (dsimp only [List.map]; decide)); (case c1 => exact rfl); (case c2 => exact rfl); (case c3 => exact rfl); (case c4 => decide))
  intro L' h' u' tk' F' N'
  (try dsimp only)
  dsimp only [kstB] at F'
  k_steps
  · rename Fr _ _ _ _ => F2
    obtain ⟨oL5, esL5, nL5, gL5, hdL5, -⟩ := F2.ns
    refine' comment_bytes (tt := t) (outer := _ :: outer) ?X ?T ?dp ?fr ?hd ?gd (F2.keep _ _ gx) (F2.keep _ _ gd) hW' (F2.keep _ _ gq) hz hl ?ret
    case fr => exact Around.frames_deeper hfr
    case gd => exact (gd_under K F2 rfl).1
    case X => exact Frag.In.keeps X0 (gd_under K F2 rfl).2.1
    case T => exact T0.keeps (gd_under K F2 rfl).2.1
    case dp => exact dep (m := 3) hdp (by decide)
    case hd => exact hh
    intro e t9 h9 tk9 tm fl9 ta9 up9 bt9
    refine' PySem.W.caught_SB (KF := hd.heap_1 w.params) (news := []) (g₀ := s.heap) ⟨⟨_, (gd_under K F2 rfl).2.1, (gd_under K F2 rfl).2.2, (fun _ h => nomatch h), fl9, bt9⟩, ta9⟩ F2 K up9 X0 T0 D PySem.W.KtsTurn.refl (by k_is) (by decide +kernel) (by decide) PySem.F.isExc_TypeError PySem.F.notTuple_TypeError sub_TT ?kk ?hk1 ?hk2 ?hk3 ?hk4
    case hk1 => exact rfl
    case hk2 => exact rfl
    case hk3 => exact rfl
    case hk4 => decide
    intro h3 g3 news3 tk3 T3 F3 N3 got3 _ K3 X3 P3 D3
    k_steps
    rename Fr _ _ _ _ => F9
    exact ret tm g3 _ _ T3 F9.keep
  · rename Fr _ _ _ _ => F2
    obtain ⟨oL5, esL5, nL5, gL5, hdL5, -⟩ := F2.ns
    refine' pi_bytes (outer := _ :: outer) ?Xz ?Tz ?dpz ?frz ?hdz ?gdz (F2.keep _ _ gx) (F2.keep _ _ gd) hW' (F2.keep _ _ gq) hz hl (by omega) ?retz
    case frz => exact Around.frames_deeper hfr
    case gdz => exact (gd_under K F2 rfl).1
    case Xz => exact Frag.In.keeps X0 (gd_under K F2 rfl).2.1
    case Tz => exact T0.keeps (gd_under K F2 rfl).2.1
    case dpz => exact dep (m := 3) hdp (by decide)
    case hdz => exact hh
    intro e t9 h9 tk9 tm fl9 ta9 up9 bt9
    refine' PySem.W.caught_SB (KF := hd.heap_1 w.params) (news := []) (g₀ := s.heap) ⟨⟨_, (gd_under K F2 rfl).2.1, (gd_under K F2 rfl).2.2, (fun _ h => nomatch h), fl9, bt9⟩, ta9⟩ F2 K up9 X0 T0 D PySem.W.KtsTurn.refl (by k_is) (by decide +kernel) (by decide) PySem.F.isExc_TypeError PySem.F.notTuple_TypeError sub_TT ?kkz ?hk1z ?hk2z ?hk3z ?hk4z
    case hk1z => exact rfl
    case hk2z => exact rfl
    case hk3z => exact rfl
    case hk4z => decide
    intro h3 g3 news3 tk3 T3 F3 N3 got3 _ K3 X3 P3 D3
    k_steps
    rename Fr _ _ _ _ => F9
    exact ret tm g3 _ _ T3 F9.keep
end Mine
end
end
section
namespace Mine
theorem ones_flat : ∀ l : List Nat, (l.map fun c => [c]).flatten = l
  | [] => rfl
  | c :: r => by rw [List.map_cons, List.flatten_cons, ones_flat r]; rfl
theorem SignVals.texts {vs : List Value} {cs : List Nat} (h : SignVals vs cs) : TextVals vs (cs.map fun c => [c]) := ⟨by simpa using h.1, fun i c hc => by
  rw [List.getElem?_map] at hc
  cases e : cs[i]? with
  | none => rw [e] at hc; cases hc
  | some d =>
    rw [e] at hc
    obtain rfl : [d] = c := by simpa using hc
    exact h.2 i d e⟩
/-- bytes that stand plainly in the text of their bytes -/
noncomputable def Fine (k : Nat) : Prop := k ≠ 39 ∧ k ≠ 92 ∧ (k = 9 ∨ k = 10 ∨ k = 13 ∨ (32 ≤ k ∧ k < 127))
theorem fine_lt {k : Nat} (h : Fine k) : k < 256 := by
  rcases h.2.2 with rfl | rfl | rfl | h
  · decide
  · decide
  · decide
  · exact Nat.lt_trans h.2 (by decide)
theorem fold_app {f : Array Nat → UInt8 → Array Nat} : ∀ (l : List UInt8) (acc : Array Nat), (∀ c ∈ l, ∀ acc, f acc c = acc ++ (shownOf c.toNat).toArray) → l.foldl f acc = (acc.toList ++ (l.map (·.toNat)).flatMap shownOf).toArray
  | [], acc, _ => by simp
  | c :: r, acc, h => by
    rw [List.foldl_cons, fold_app r _ fun d hd => h d (.tail _ hd), h c (.head _)]
    simp
theorem literal_fine {b : Array UInt8} (h : ∀ k ∈ b.toList.map (·.toNat), Fine k) : Builtin.Bytes.literal b = st ([98, 39] ++ (b.toList.map (·.toNat)).flatMap shownOf ++ [39]) := by
  have h39 : b.contains 39 = false := by
    rw [Bool.eq_false_iff]
    intro h'
    have hm := Array.contains_iff_mem.mp h'
    exact (h 39 (List.mem_map.mpr ⟨39, by simpa using hm, rfl⟩)).1 rfl
  unfold Builtin.Bytes.literal
  rw [h39]
  dsimp only [Bool.false_and]
  rw [← Array.foldl_toList, fold_app]
  · simp
  · intro c hc acc
    congr 1
    obtain ⟨h1, h2, h3⟩ := h c.toNat (List.mem_map.mpr ⟨c, hc, rfl⟩)
    rw [if_neg Bool.false_ne_true, if_neg (by simp [h1, h2])]
    unfold shownOf
    by_cases e9 : c.toNat = 9
    · rw [if_pos (by simp [e9]), if_pos e9]
    rw [if_neg (by simpa using e9), if_neg e9]
    by_cases e10 : c.toNat = 10
    · rw [if_pos (by simp [e10]), if_pos e10]
    rw [if_neg (by simpa using e10), if_neg e10]
    by_cases e13 : c.toNat = 13
    · rw [if_pos (by simp [e13]), if_pos e13]
    rw [if_neg (by simpa using e13), if_neg e13]
    have h4 : 32 ≤ c.toNat ∧ c.toNat < 127 := by
      rcases h3 with h | h | h | h
      · exact absurd h e9
      · exact absurd h e10
      · exact absurd h e13
      · exact h
    rw [if_neg (by simp only [Bool.or_eq_true, decide_eq_true_eq, not_or]; exact ⟨Nat.not_lt.mpr h4.1, Nat.not_le.mpr h4.2⟩)]
theorem good_fine {c : Nat} (h : Good c) (hc : c < 128) : Fine c := by
  rcases h with h | h
  · simp only [List.mem_cons, List.not_mem_nil, or_false] at h
    unfold Fine
    rcases h with rfl | rfl | rfl | rfl | rfl | rfl | rfl | rfl | rfl | rfl <;> decide
  · exact absurd h.1 (Nat.not_le.mpr hc)
theorem dig_fine0 : ∀ n : Nat, n < 36 → (dig n ≠ 39 ∧ dig n ≠ 92 ∧ (dig n = 9 ∨ dig n = 10 ∨ dig n = 13 ∨ (32 ≤ dig n ∧ dig n < 127))) ∧ dig n < 256 := by decide
theorem dig_fine {n : Nat} (h : n < 36) : Fine (dig n) ∧ dig n < 256 := dig_fine0 n h
theorem four : ∀ k : Nat, k < 4 → ((k : Int) = 0 ∨ (k : Int) = 1 ∨ (k : Int) = 2 ∨ (k : Int) = 3) := by decide
theorem mem9 {α : Type} {a b c d e f g h i p : α} {tl : List α} (hp : p ∈ tl) : p ∈ a :: b :: c :: d :: e :: f :: g :: h :: i :: tl := .tail _ (.tail _ (.tail _ (.tail _ (.tail _ (.tail _ (.tail _ (.tail _ (.tail _ hp))))))))
theorem toNat8 {c : Nat} (h : c < 256) : (c.toUInt8).toNat = c := by
  show c % 256 = c
  exact Nat.mod_eq_of_lt h
theorem label_fine {bs L : List Nat} (hb : ∀ c ∈ bs, Fine c) (hL : ∀ x ∈ L, x < 36) : ∀ k ∈ (label bs L).toList.map (·.toNat), Fine k := by
  have h1 : ∀ k ∈ (digs L).toList.map (·.toNat), Fine k := by
    intro k hk
    obtain ⟨u, hu, rfl⟩ := List.mem_map.mp hk
    obtain ⟨n, hn, rfl⟩ := List.mem_map.mp (show u ∈ L.map fun n => (dig n).toUInt8 from hu)
    obtain ⟨d1, d2⟩ := dig_fine (hL n hn)
    rw [toNat8 d2]; exact d1
  unfold label
  split
  · exact h1
  · intro k hk
    rw [Array.toList_append, Array.toList_append, List.map_append, List.map_append] at hk
    rcases List.mem_append.mp hk with hk | hk
    · rcases List.mem_append.mp hk with hk | hk
      · obtain ⟨u, hu, rfl⟩ := List.mem_map.mp hk
        obtain ⟨c, hc, rfl⟩ := List.mem_map.mp (show u ∈ bs.map Nat.toUInt8 from hu)
        have := hb c hc
        rw [toNat8 (fine_lt this)]; exact this
      · have : k = 45 := by simpa using hk
        subst this
        unfold Fine; decide
    · exact h1 k hk
theorem label_size {bs L : List Nat} : (label bs L).size ≤ bs.length + 1 + L.length := by
  unfold label
  split
  · simp [digs]
  · simp [digs]; exact Nat.le_of_eq (add1_eq rfl).symm
theorem esc_filter : ∀ cs : List Nat, (cs.flatMap esc).filter (· < 128) = (cs.filter (· < 128)).flatMap esc
  | [] => rfl
  | c :: r => by
    rw [List.flatMap_cons, List.filter_append, esc_filter r]
    by_cases h : c < 128
    · rw [List.filter_cons_of_pos (by simpa using h), List.flatMap_cons]
      congr 1
      rw [List.filter_eq_self]
      unfold esc
      split; · decide
      split; · decide
      split; · decide
      split; · decide
      intro x hx; rw [List.mem_singleton.mp hx]; simpa using h
    · rw [List.filter_cons_of_neg (by simpa using h)]
      have e : esc c = [c] := by unfold esc; rw [if_neg fun e => h (by rw [e]; decide), if_neg fun e => h (by rw [e]; decide), if_neg fun e => h (by rw [e]; decide), if_neg fun e => h (by rw [e]; decide)]
      rw [e, List.filter_cons_of_neg (by simpa using h)]; rfl
theorem esc_high : ∀ cs : List Nat, ((cs.flatMap esc).filter (127 < ·)).length ≤ cs.length
  | [] => Nat.le_refl _
  | c :: r => by
    have := esc_high r
    have h2 : ((esc c).filter (127 < ·)).length ≤ 1 := by
      unfold esc
      split; · decide
      split; · decide
      split; · decide
      split; · decide
      exact List.length_filter_le _ _
    rw [List.flatMap_cons, List.filter_append, List.length_append, List.length_cons]
    exact Nat.le_trans (Nat.add_le_add h2 this) (Nat.le_of_eq (Nat.add_comm 1 _))
theorem all_le {l : List Nat} {x : Nat} (hx : x ∈ l) (h : (l.all fun x => decide (x ≤ 1114111)) = true) : x ≤ 1114111 := of_decide_eq_true (List.all_eq_true.mp h x hx)
theorem esc_ok : ∀ cs : List Nat, (∀ x ∈ cs, x ≤ 1114111) → ∀ x ∈ cs.flatMap esc, x ≤ 1114111
  | [], _, _, h => nomatch h
  | c :: r, h, x, hx => by
    rw [List.flatMap_cons] at hx
    rcases List.mem_append.mp hx with hx | hx
    · have hc := h c (.head _)
      have : x ≤ 1114111 ∨ x = c := by
        unfold esc at hx
        split at hx; · exact .inl (all_le hx rfl)
        split at hx; · exact .inl (all_le hx rfl)
        split at hx; · exact .inl (all_le hx rfl)
        split at hx; · exact .inl (all_le hx rfl)
        exact .inr (by simpa using hx)
      exact this.elim id fun e => e ▸ hc
    · exact esc_ok r (fun y hy => h y (.tail _ hy)) x hx
structure LwSt where
  ov : List Value
  oc : Nat
  ot : List (List Nat)
  pv : List Value
  pc : Nat
  pt : List (List Nat)
  wv : List Value
  wc : Nat
  wt : List (List Nat)
noncomputable def signSum (olds : List Old) (i : Nat) : Nat := ((olds.take i).map fun o => o.cs.length).sum
/-- what holds of the three lists after i remarks -/
structure LwP (olds : List Old) (i : Nat) (c : LwSt) : Prop where
  o : TextVals c.ov c.ot
  p : TextVals c.pv c.pt
  w : TextVals c.wv c.wt
  ow : c.ot.flatten = c.wt.flatten
  pw : c.pt.flatten = c.wt.flatten.filter (· < 128)
  len : c.wt.flatten.length ≤ 5 * signSum olds i + 12 * i
  high : (c.wt.flatten.filter (127 < ·)).length ≤ signSum olds i
  ok : ∀ x ∈ c.wt.flatten, x ≤ 1114111
  on : c.ot.length ≤ 2 * i
  pn : c.pt.length ≤ 2 * i
  wn : c.wt.length ≤ i
theorem signSum_succ {olds : List Old} {i : Nat} {y : Old} (h : olds[i]? = some y) : signSum olds (i + 1) = signSum olds i + y.cs.length := by
  unfold signSum
  rw [List.take_add_one, h]
  simp
theorem filter_low {l : List Nat} (h : ∀ x ∈ l, x < 128) : l.filter (· < 128) = l := List.filter_eq_self.mpr fun x hx => by simpa using h x hx
theorem filter_no {l : List Nat} (h : ∀ x ∈ l, x < 128) : l.filter (127 < ·) = [] := List.filter_eq_nil_iff.mpr fun x hx => by have := h x hx; simp; exact Nat.le_of_lt_succ this
theorem flat_two (l : List (List Nat)) (a b : List Nat) : (l ++ [a] ++ [b]).flatten = l.flatten ++ (a ++ b) := by simp
theorem flat_one (l : List (List Nat)) (a : List Nat) : (l ++ [a]).flatten = l.flatten ++ a := by simp
theorem stepL {w a e b S y i c : Nat} (h4 : w ≤ 5 * S + 12 * i) (hl : a + b + 1 ≤ 12) (h2 : e ≤ 5 * c) (hcs : c ≤ y) : w + (a + e + b + 1) ≤ 5 * (S + y) + 12 * (i + 1) := by
  have E1 : a + e + b + 1 = e + (a + b + 1) := (congrArg (· + b + 1) (Nat.add_comm a e)).trans (congrArg (· + 1) (Nat.add_assoc e a b))
  have E2 : 5 * S + 12 * i + (5 * y + 12) = 5 * (S + y) + 12 * (i + 1) := (Nat.add_add_add_comm _ _ _ _).trans (congrArg (· + (12 * i + 12)) (Nat.mul_add 5 S y).symm)
  rw [E1, ← E2]
  exact Nat.add_le_add h4 (Nat.add_le_add (Nat.le_trans h2 (Nat.mul_le_mul_left 5 hcs)) hl)
theorem LwP.step {olds : List Old} {i : Nat} {c : LwSt} {y : Old} (h : LwP olds i c) (hy : olds[i]? = some y) {a b cs wx : List Nat} (hw : wx = a ++ cs.flatMap esc ++ b ++ [10]) (ha : ∀ x ∈ a, x < 128) (hb : ∀ x ∈ b, x < 128) (hl : a.length + b.length + 1 ≤ 12)
    (hcs : cs.length ≤ y.cs.length) (hok : ∀ x ∈ cs, x ≤ 1114111) (t1 t2 t3 t4 t5 : Tok) (n1 n2 n3 : Nat) :
    LwP olds (i + 1) ⟨c.ov ++ [.str (st (a ++ cs.flatMap esc ++ b)) t1] ++ [.str (st [10]) t2], n1, c.ot ++ [a ++ cs.flatMap esc ++ b] ++ [[10]], c.pv ++ [.str (st (a ++ (cs.filter (· < 128)).flatMap esc ++ b)) t3] ++ [.str (st [10]) t4], n2, c.pt ++ [a ++ (cs.filter (· < 128)).flatMap esc ++ b] ++ [[10]],
      c.wv ++ [.str (st wx) t5], n3, c.wt ++ [wx]⟩ := by
  subst hw
  have h1 := signSum_succ hy
  have h2 := esc_len cs
  have h3 := esc_high cs
  have h4 := h.len
  have h5 := h.high
  have h10 : ∀ x ∈ [10], x < 128 := by decide
  refine ⟨h.o.snoc.snoc, h.p.snoc.snoc, h.w.snoc, ?_, ?_, ?_, ?_, ?_, ?_, ?_, ?_⟩
  · rw [flat_two, flat_one, h.ow]
  · rw [flat_two, flat_one, h.pw, List.filter_append, List.filter_append, List.filter_append, List.filter_append, filter_low ha, filter_low hb, filter_low h10, esc_filter]
  · rw [flat_one, List.length_append, List.length_append, List.length_append, List.length_append, h1]
    show _ + (a.length + _ + b.length + 1) ≤ _
    exact stepL h4 (by assumption) h2 hcs
  · rw [flat_one, List.filter_append, List.filter_append, List.filter_append, List.filter_append, filter_no ha, filter_no hb, filter_no h10, List.length_append, h1]
    simp only [List.nil_append, List.append_nil]
    exact Nat.add_le_add h5 (Nat.le_trans h3 hcs)
  · rw [flat_one]
    intro x hx
    rcases List.mem_append.mp hx with hx | hx
    · exact h.ok x hx
    rcases List.mem_append.mp hx with hx | hx
    · rcases List.mem_append.mp hx with hx | hx
      · rcases List.mem_append.mp hx with hx | hx
        · exact Nat.le_trans (Nat.le_of_lt (ha x hx)) (by decide)
        · exact esc_ok cs hok x hx
      · exact Nat.le_trans (Nat.le_of_lt (hb x hx)) (by decide)
    · exact Nat.le_trans (Nat.le_of_lt (h10 x hx)) (by decide)
  · have := h.on; simp; exact Nat.add_le_add_right this 2
  · have := h.pn; simp; exact Nat.add_le_add_right this 2
  · rw [List.length_append]; exact Nat.succ_le_succ h.wn
theorem LwP.stay {olds : List Old} {i : Nat} {c : LwSt} {y : Old} (h : LwP olds i c) (hy : olds[i]? = some y) : LwP olds (i + 1) c := by
  have h1 := signSum_succ hy
  have h4 := h.len
  have h5 := h.high
  exact ⟨h.o, h.p, h.w, h.ow, h.pw, Nat.le_trans h4 (by rw [h1]; exact Nat.add_le_add (Nat.mul_le_mul_left 5 (Nat.le_add_right _ _)) (Nat.mul_le_mul_left 12 (Nat.le_succ i))), Nat.le_trans h5 (by rw [h1]; exact Nat.le_add_right _ _), h.ok, Nat.le_trans h.on (Nat.mul_le_mul_left 2 (Nat.le_succ i)), Nat.le_trans h.pn (Nat.mul_le_mul_left 2 (Nat.le_succ i)), Nat.le_succ_of_le h.wn⟩
noncomputable def saidA : List Nat := [99, 97, 110, 110, 111, 116, 32, 115, 101, 114, 105, 97, 108, 105, 122, 101, 32]
noncomputable def saidB : List Nat := [32, 40, 116, 121, 112, 101, 32, 98, 121, 116, 101, 115, 41]
/-- the frame behind a caught exception -/
theorem Fr.turned {hb h g h' : Heap} {L : Addr} {m : Str → Option Value} (F : Fr hb L h m) (T : PySem.W.KtsTurn [L] h g) (k : g.StaysIn h') : Fr hb L h' m :=
  ⟨let ⟨o, es, n, ho, hd, r⟩ := F.ns; let ⟨_, hs⟩ := T.frame L o ho (.head _); ⟨_, es, n, k _ _ hs, hd, r⟩,
   fun b o e => k _ _ (T.other b o (F.keep b o e) fun hm => by
    rw [List.mem_singleton.mp hm] at e
    exact absurd (Nat.lt_of_lt_of_le (Heap.lt_size e) F.above) (Nat.lt_irrefl _)), F.above⟩
theorem News.turned {hb h g h' : Heap} {L : Addr} {news : List (Addr × Obj)} (N : News hb L h news) (T : PySem.W.KtsTurn [L] h g) (k : g.StaysIn h') : News hb L h' news := fun p hp =>
  ⟨k _ _ (T.other _ _ (N p hp).1 fun hm => (N p hp).2.1 (List.mem_singleton.mp hm)), (N p hp).2⟩
section
variable {prog : Program} {w : World} {A : Around} {s : Shared} {p : Program} {loose : List Str} {mean : ExcName → Option Value} {mg mb : Str → Option Value} {Q E : Value → Shared → Prop} {hb : Heap} {L : Addr} {m : Str → Option Value} {news : List (Addr × Obj)} {x dx q out : Addr} {es : List DictEntry} {n : Nat}
theorem comment_N (X0 : (hd.heap_1 w.params).In hb) (T0 : Top p loose mean mg mb hb) (hdp : A.depth + 1 < recursionLimit) (hh : A.handled = none) (F : Fr hb L s.heap m) (N : News hb L s.heap news) {c : Nat} {xs : Array Value} {cs : List Nat} {t : Tok}
    (mx : (x, instObj 150 dx) ∈ news) (md : (dx, dictOf es n) ∈ news) (hW : Wd es q) (mq : (q, bmObj "list.append" (.ref out)) ∈ news) (mo : (out, W.listOf xs c) ∈ news) {g : Obj → List (Addr × Obj)} (U : ∀ o', Upd out (W.listOf xs c) o' news (g o')) (hxs : xs.size ≤ 10000) (hn : cs.length ≤ 1000)
    (ret : ∀ t1 t2 h' tk', Fr hb L h' m → News hb L h' (g (W.listOf ((xs.push (.str (st ([60, 33, 45, 45] ++ cs.flatMap esc ++ [45, 45, 62])) t1)).push (.str (st [10]) t2)) (c + 1 + 1))) → Q .none { s with heap := h', toks := tk' }) :
    wpAny (model prog w) A (call (.ref 140) [.ref x, .str (st cs) t]) Q E s :=
  comment_spec X0 T0 hdp hh F.keep (News.fresh N mo) (News.get N mx) (News.get N md) hW (News.get N mq) (News.get N mo) hxs hn fun t1 t2 h' tk' k e => ret t1 t2 h' tk' (Fr.but F N mo k) (News.but N (U _) e k)
theorem pi_N (X0 : (hd.heap_1 w.params).In hb) (T0 : Top p loose mean mg mb hb) (hdp : A.depth + 1 < recursionLimit) (hh : A.handled = none) (F : Fr hb L s.heap m) (N : News hb L s.heap news) {c : Nat} {xs : Array Value} {cs : List Nat} {t tt : Tok}
    (mx : (x, instObj 150 dx) ∈ news) (md : (dx, dictOf es n) ∈ news) (hW : Wd es q) (mq : (q, bmObj "list.append" (.ref out)) ∈ news) (mo : (out, W.listOf xs c) ∈ news) {g : Obj → List (Addr × Obj)} (U : ∀ o', Upd out (W.listOf xs c) o' news (g o')) (hxs : xs.size ≤ 10000) (hn : cs.length ≤ 1000 - 2)
    (ret : ∀ t1 t2 h' tk', Fr hb L h' m → News hb L h' (g (W.listOf ((xs.push (.str (st ([60, 63, 116, 32, 118, 61] ++ cs.flatMap esc ++ [63, 62])) t1)).push (.str (st [10]) t2)) (c + 1 + 1))) → Q .none { s with heap := h', toks := tk' }) :
    wpAny (model prog w) A (call (.ref 147) [.ref x, .str (Str.ofString "t") tt, .str (st ([118, 61] ++ cs)) t]) Q E s :=
  pi_spec X0 T0 hdp hh F.keep (News.fresh N mo) (News.get N mx) (News.get N md) hW (News.get N mq) (News.get N mo) hxs (by rw [List.length_append]; exact Nat.le_trans (Nat.add_le_add_left (by assumption) 2) (by decide)) (by simp) fun t1 t2 h' tk' k e => ret t1 t2 h' tk' (Fr.but F N mo k) (News.but N (U _) e k)
theorem pinil_N (X0 : (hd.heap_1 w.params).In hb) (T0 : Top p loose mean mg mb hb) (hdp : A.depth + 1 < recursionLimit) (hh : A.handled = none) (F : Fr hb L s.heap m) (N : News hb L s.heap news) {c : Nat} {xs : Array Value} {t tt : Tok} {b : Array UInt8} (hb0 : b = #[])
    (mx : (x, instObj 150 dx) ∈ news) (md : (dx, dictOf es n) ∈ news) (hW : Wd es q) (mq : (q, bmObj "list.append" (.ref out)) ∈ news) (mo : (out, W.listOf xs c) ∈ news) {g : Obj → List (Addr × Obj)} (U : ∀ o', Upd out (W.listOf xs c) o' news (g o')) (hxs : xs.size ≤ 10000)
    (ret : ∀ t1 t2 h' tk', Fr hb L h' m → News hb L h' (g (W.listOf ((xs.push (.str (st [60, 63, 116, 63, 62]) t1)).push (.str (st [10]) t2)) (c + 1 + 1))) → Q .none { s with heap := h', toks := tk' }) :
    wpAny (model prog w) A (call (.ref 147) [.ref x, .str (Str.ofString "t") tt, .bytes b t]) Q E s := by
  subst hb0
  exact pi_nil X0 T0 hdp hh F.keep (News.fresh N mo) (News.get N mx) (News.get N md) hW (News.get N mq) (News.get N mo) hxs fun t1 t2 h' tk' k e => ret t1 t2 h' tk' (Fr.but F N mo k) (News.but N (U _) e k)
theorem refusal_N {name : Str} {scope : Scope} {a : Addr} {cd : Value} (X0 : (hd.heap_1 w.params).In hb) (T0 : Top p loose mean mg mb hb) (hdp : A.depth + 3 < recursionLimit) (hu : A.units ≤ 200) (hh : A.handled = none) (hfr : A.frames = some [envOf name scope L a cd]) (hk : scope.kind = .function)
    (F : Fr hb L s.heap m) (N : News hb L s.heap news) (mx : (x, instObj 150 dx) ∈ news) (md : (dx, dictOf es n) ∈ news) (hW : Wd es q) (mq : (q, bmObj "list.append" (.ref out)) ∈ news) {b : Array UInt8} {t u : Tok} {k : Int}
    (hz : b.size ≤ 100000) (hfine : ∀ k ∈ b.toList.map (·.toNat), Fine k) (hne : k = 2 ∨ 0 < b.size) {sh : List Nat} (hsh : [98, 39] ++ (b.toList.map (·.toNat)).flatMap shownOf ++ [39] = sh)
    (ret : ∀ tm h' tk', Fr hb L h' m → News hb L h' news → Q (.str (st (saidA ++ sh ++ saidB)) tm) { s with heap := h', toks := tk' }) :
    wpAny (model prog w) A (call (.ref 270) [.ref x, .int k u, .bytes b t]) Q E s := by
  have hnew : hb.get? L = none := by
    cases hq : hb.get? L with
    | none => rfl
    | some o => exact absurd (Nat.lt_of_lt_of_le (Heap.lt_size hq) F.above) (Nat.lt_irrefl _)
  have G : Gd hb s.heap [envOf name scope L a cd] := ⟨F.keep, Nat.le_trans F.above (Nat.le_of_lt F.ns.lt), .cons (by show scope.kind ≠ .module; rw [hk]; decide) rfl F.ns hnew trivial⟩
  have D : PySem.W.KtsDicts ([envOf name scope L a cd].filterMap (·.frame)) s.heap := fun b' hb' => by
    have e : b' = L := List.mem_singleton.mp (show b' ∈ [L] from hb')
    subst e
    obtain ⟨o, es, n, ho, hd, -⟩ := F.ns
    exact ⟨o, es, n, ho, hd⟩
  have hlit := literal_fine hfine
  have hsl := shown_len (b.toList.map (·.toNat))
  rw [← List.flatMap_def, List.length_map] at hsl
  have hbz : b.toList.length = b.size := rfl
  refine refusal_spec X0 T0 hdp hu hfr hh G D (News.get N mx) (News.get N md) hW (News.get N mq) hz ?_ hne fun tm g' h' tk' T k => ?_
  · rw [hlit, st_len]
    simp only [List.length_append, List.length_cons, List.length_nil]
    exact Nat.le_trans (Nat.add_le_add_right (Nat.add_le_add_left (Nat.le_trans hsl (Nat.mul_le_mul_left 2 hz)) _) _) (by decide)
  · rw [hlit, show Str.ofString "cannot serialize " = st saidA by decide, show Str.ofString " (type bytes)" = st saidB by decide, st_app, st_app, hsh]
    exact ret tm h' tk' (Fr.turned F T k) (News.turned N T k)
theorem shown_N (F : Fr hb L s.heap m) (N : News hb L s.heap news) (X0 : (hd.heap_1 w.params).In hb) (T0 : Top p loose mean mg mb hb) (hdp : A.depth + 1 < recursionLimit) (hh : A.handled = none) {b : Array UInt8} {t : Tok} (hz : b.size ≤ 100000) {sh : List Nat} (hsh : [98, 39] ++ (b.toList.map (·.toNat)).flatMap shownOf ++ [39] = sh)
    (ret : ∀ t2 h' tk', Fr hb L h' m → News hb L h' news → Q (.str (st sh) t2) { s with heap := h', toks := tk' }) : wpAny (model prog w) A (call (.ref 263) [.bytes b t]) Q E s := by
  subst hsh
  exact shown_spec (Frag.In.keeps X0 F.keep) (T0.keeps F.keep) hdp hh rfl (by rw [List.length_map]; exact hz) fun t2 h' tk' k => ret t2 h' tk' (Fr.kp F k) (News.kp N k)
theorem shown_len3 {b : Array UInt8} {sh : List Nat} (hsh : [98, 39] ++ (b.toList.map (·.toNat)).flatMap shownOf ++ [39] = sh) (hz : b.size ≤ 100000) : sh.length ≤ 300000 := by
  subst hsh
  have hsl := shown_len (b.toList.map (·.toNat))
  rw [← List.flatMap_def, List.length_map] at hsl
  have hbz : b.toList.length = b.size := rfl
  simp only [List.length_append, List.length_cons, List.length_nil]
  exact Nat.le_trans (Nat.add_le_add_right (Nat.add_le_add_left (Nat.le_trans hsl (Nat.mul_le_mul_left 2 hz)) _) _) (by decide)
theorem join_textsL {D : Addr} {vs : List Value} {cs : List (List Nat)} {t : Tok} (hl : s.heap.IsList D vs.toArray) (hv : TextVals vs cs) (hn : cs.flatten.length ≤ 10000000)
    (h : ∀ t' k, Q (.str (st cs.flatten) t') { s with toks := k }) : wpAny (model prog w) A (call (.builtin "str.join") [.str (Str.ofString "") t, .ref D]) Q E s := by
  rw [show Str.ofString "" = Str.empty by decide]
  refine join_list (items := vs.toArray) hl hv.strs ?_ ?_
  · rw [sum_st, show Str.empty.length = 0 from rfl, Nat.mul_zero]; exact Nat.le_trans hn (by decide)
  · rw [join_st]; exact h
theorem marks_len (cs : List Nat) : (marks cs cs.length).length = (cs.filter (127 < ·)).length := by
  unfold marks
  conv => rhs; rw [← map_getD_range cs]
  rw [List.filter_map, List.length_map, List.length_map]
  rfl
theorem ne_same {prog : Program} {w : World} {A : Around} {E : Value → Shared → Prop} {s : Shared} {x y : Str} {t u : Tok} {Q : Value → Shared → Prop} (e : x = y) (h : Q (.bool false) s) : wpAny (model prog w) A (compareOp .NotEq (.str x t) (.str y u)) Q E s := by
  subst e
  refine PyProof.Rows.ne_str ?_
  rw [bne_self_eq_false]; exact h
theorem eq_same {prog : Program} {w : World} {A : Around} {E : Value → Shared → Prop} {s : Shared} {x y : Str} {t u : Tok} {Q : Value → Shared → Prop} (e : x = y) (h : Q (.bool true) s) : wpAny (model prog w) A (compareOp .Eq (.str x t) (.str y u)) Q E s := by
  subst e
  refine PyProof.Rows.eq_str ?_
  rw [beq_self_eq_true]; exact h
theorem pd_N (X : (hd.heap_1 w.params).In s.heap) (T : Top p loose mean mg mb s.heap) (hdp : A.depth + 3 < recursionLimit) (hh : A.handled = none) {lb : Array UInt8} {cs gs : List Nat} {t v : Tok} (hlb : label (cs.filter (· < 128)) (giL (cs.filter (· < 128)).length 0 72 gs) = lb) (ht : Tells cs gs) (hn : (cs.filter (· < 128)).length ≤ 10000)
    (ret : ∀ t h' tk', Kp s.heap h' → Q (.str (st cs) t) { s with heap := h', toks := tk' }) : wpAny (model prog w) A (call (.ref 217) [.bytes lb t, .str (Str.ofString "strict") v]) Q E s := by
  subst hlb
  refine pd_spec X T hdp hh (fun c hc => by simpa using (List.mem_filter.mp hc).2) hn ht.1 ht.2.1 ht.2.2.2 ?_
  rw [ht.2.2.1]; exact ret
theorem tells_fine {cs gs : List Nat} {lb : Array UInt8} (hlb : label (cs.filter (· < 128)) (giL (cs.filter (· < 128)).length 0 72 gs) = lb) (ht : Tells cs gs) (hn : (cs.filter (· < 128)).length ≤ 10000) :
    lb.size ≤ 100000 ∧ ((∀ c ∈ cs, Good c) → ∀ k ∈ lb.toList.map (·.toNat), Fine k) := by
  subst hlb
  have h1 := giL_len (cs.filter (· < 128)).length gs 0 72 ht.1
  have h2 := ht.2.1
  have h3 := label_size (bs := cs.filter (· < 128)) (L := giL (cs.filter (· < 128)).length 0 72 gs)
  exact ⟨Nat.le_trans h3 (Nat.le_trans (Nat.add_le_add (Nat.succ_le_succ hn) (Nat.le_trans h1 (Nat.mul_le_mul_left 61 h2))) (by decide)), fun hg => label_fine (fun c hc => good_fine (hg c (List.mem_filter.mp hc).1) (by simpa using (List.mem_filter.mp hc).2)) (giL_lt _ gs 0 72 ht.1)⟩
end
end Mine
end
section
theorem Mine.anewLw : True := by w_top off; trivial
namespace Mine
local macro_rules | `(tactic| walk_at "binaryOp Add str str") => `(tactic| (refine held ?_))
local macro_rules | `(tactic| walk_at "call ref") => `(tactic| (refine held ?_))
local macro_rules | `(tactic| walk_at "call builtin:str.join") => `(tactic| (refine held ?_))
local macro_rules | `(tactic| walk_at "getMethod ref") => `(tactic| (k_here; k_dflt (refine' method_inst ?k1 ?k2 ?k3 ?k4 ?k5 ?k6 ?k7 ?_; (case k1 => k_asm); (case k2 => k_asm); (case k3 => first | exact InstAt.of_news (by assumption) (by k_mem) (by k_mem) | exact inst_of (by assumption) (by assumption) (by assumption)); (case k4 => k_is); (case k5 => k_is); (case k6 => k_is); (case k7 => assumption))))
local macro_rules | `(tactic| walk_at "getAttr ref") => `(tactic| (k_here; (refine bound_append (by assumption) (by assumption) (News.get (by assumption) (by k_mem)) ?_); intro q' h' F' N' l1; try k_lt l1))
theorem IntsAre.all {vs : List Value} {ns : List Int} (h : IntsAre vs ns) : ∀ v ∈ vs, ∃ n t, v = .int n t := by
  induction h with
  | nil => exact fun _ h => nomatch h
  | cons n t _ ih =>
    intro v hv
    rcases List.mem_cons.mp hv with rfl | hv
    · exact ⟨n, t, rfl⟩
    · exact ih v hv
theorem make_writer {prog : Program} {w : World} {A : Around} {s : Shared} {p : Program} {loose : List Str} {mean : ExcName → Option Value} {mg mb : Str → Option Value} {Q E : Value → Shared → Prop} {hb : Heap} {L q : Addr} {m : Str → Option Value} {news : List (Addr × Obj)}
    (X : (hd.heap_1 w.params).In hb) (T : Top p loose mean mg mb hb) (hdp : A.depth + 1 < recursionLimit) (hh : A.handled = none) (F : Fr hb L s.heap m) (N : News hb L s.heap news)
    (h : ∀ x dx es n h' tk, Fr hb L h' m → News hb L h' ((x, instObj 150 dx) :: (dx, dictOf es n) :: news) → Wd es q → (∀ p ∈ news, p.1 < dx) → @LT.lt Nat _ dx x → Q (.ref x) { s with heap := h', toks := tk }) :
    wpAny (model prog w) A (call (.ref 150) [.ref q] [(Str.ofString "with_comments", .bool true)]) Q E s := by
  refine' call_cls (K := hd.heap_1 w.params) F X N (by k_is) (by k_is) (by k_is) ?_
  intro x1 dx1 h5 F5 N5 l5 l6
  refine' init_spec (hb := hb) X T ?dp ?hd ?kp (News.fresh N5 (.head _)) (News.fresh N5 (.tail _ (.head _))) l6 (News.get N5 (.head _)) (News.get N5 (.tail _ (.head _))) ?ret1
  case dp => first | exact hdp | exact Nat.lt_of_succ_lt hdp
  case hd => exact hh
  case kp => exact Fr.keep F5
  case ret1 =>
    intro es n h9 tk9 kb g9 wd
    refine ⟨rfl, ?_⟩
    exact h x1 dx1 es n h9 tk9 (Fr.but F5 N5 (.tail _ (.head _)) kb) (News.but N5 (.tail (Nat.ne_of_lt l6).symm (.head fun p hp => Nat.ne_of_lt (l5 p hp))) g9 kb) wd l5 l6
theorem marks_le (cs : List Nat) : (marks cs cs.length).length ≤ cs.length := by
  unfold marks
  rw [List.length_map]
  exact Nat.le_trans (List.length_filter_le _ _) (by rw [List.length_range]; exact Nat.le_refl _)
theorem Good.le {c : Nat} (h : Good c) : c ≤ 1114111 := by
  rcases h with h | h
  · simp only [List.mem_cons, List.not_mem_nil, or_false] at h
    rcases h with rfl | rfl | rfl | rfl | rfl | rfl | rfl | rfl | rfl | rfl <;> decide
  · exact h.2
theorem le_sum : ∀ {l : List Nat} {x : Nat}, x ∈ l → x ≤ l.sum
  | a :: r, x, h => by
    rw [List.sum_cons]
    rcases List.mem_cons.mp h with rfl | h
    · exact Nat.le_add_right _ _
    · exact Nat.le_trans (le_sum h) (Nat.le_add_left _ _)
theorem lemY {o s v y : Nat} (tot : o + s ≤ v + 1) (hv : v ≤ 10) (hi : 0 < o) (hy : y ≤ s) : y ≤ 10 :=
  Nat.le_of_succ_le_succ (Nat.le_trans (Nat.add_le_add hy hi) (Nat.le_trans (Nat.le_of_eq (Nat.add_comm s o)) (Nat.le_trans tot (Nat.succ_le_succ hv))))
theorem lemW {w S o v : Nat} (h : w ≤ 5 * S + 12 * o) (tot : o + S ≤ v + 1) (hv : v ≤ 10) : w ≤ 10000 := by omega
theorem law_spec {prog : Program} {w : World} {A : Around} {s : Shared} {p : Program} {loose : List Str} {mean : ExcName → Option Value} {mg mb : Str → Option Value} {Q : Value → Shared → Prop}
    (X : (hd.heap_1 w.params).In s.heap) (T : Top p loose mean mg mb s.heap) (hdp : A.depth + 6 < recursionLimit) (hh : A.handled = none) (hg : A.guards = some []) (hu : A.units ≤ 100) (hfr : A.frames = some [])
    {sl : Addr} {vs : List Value} {ns : List Int} (hl : s.heap.IsList sl vs.toArray) (hi : IntsAre vs ns) (hn : vs.length ≤ 63)
    (ret : ∀ (t : Tok) h' tk', Kp s.heap h' → Q (.bool true) { s with heap := h', toks := tk' }) :
    wpC (model prog w) A (call (.ref 275) [.ref sl]) Q s := by
  have hnl : ns.length = vs.length := hi.length.symm
  k_dflt (refine' enterC ([(Str.ofString "script", .ref sl)]) X T (Ent.self _) ?k1 ?k2 (Nat.lt_of_le_of_lt (Nat.le_add_right _ _) hdp) ?k3 ?k4 ?k5 ?_ ?c1 ?c2 ?c3 ?c4; (case k1 => k_is); (case k2 => k_is); (case k3 => exact BindsTo.of_eq rfl); (case k4 => exact locs rfl); (case k5 => (dsimp only [List.map]; decide)); (case c1 => exact rfl); (case c2 => exact rfl); (case c3 => exact rfl); (case c4 => decide))
  intro L' h' u' tk' F' N'
  (try dsimp only)
  dsimp only [kstB] at F'
  refine wpC_execs_any (wpAny_mono (Q := fun fl s' => fl = .next ∧ End s.heap L' s (fun x : Addr × List Value × Nat => [(x.1, W.listOf x.2.1.toArray x.2.2)]) (fun x => [(Str.ofString "numbers", .val (.ref x.1))]) (fun x => (∀ v ∈ x.2.1, ∃ n t, v = .int n t) ∧ x.2.1.length ≤ 10) s') ?one ?two fun _ _ x => x)
  case one =>
    k_steps
    all_goals first | trivial | skip
    · rename_i a D ws hA hI hC hL l h9 F9 N9
      exact End.intro (D, ws, 0) F9 N9 (fun p hp => hp) (Known.val (by with_unfolding_all rfl) rfl Known.nil) ⟨IntsAre.all hI, by show ws.length ≤ 10; rw [hI.length, hC]; exact Nat.min_le_left _ _⟩
    · rename_i a D1 h7 l7 D ws h8 hI l h9 F9 N9
      exact End.intro (D, ws, 0) F9 N9 (fun p hp => by rw [List.mem_singleton.mp hp]; exact .head _) (Known.val (by with_unfolding_all rfl) rfl Known.nil) ⟨IntsAre.all hI, by show ws.length ≤ 10; rw [hI.length, List.length_append]; exact Nat.add_le_add_right (Nat.le_trans (Int.ofNat_le.mp (show (ns.length : Int) ≤ ((4 : Nat) : Int) from Int.not_lt.mp ‹¬ (4 : Int) < (ns.length : Int)›)) (by decide)) 5⟩
  case two =>
    rintro fl s' ⟨rfl, ⟨nl, vs2, n0⟩, h1, tk1, m1, news, rfl, F1, N1, hl1, hk1, hv2, hn2⟩
    obtain ⟨τ1, F1⟩ := Fr.canon F1 hk1
    have N2 : News s.heap L' h1 [(nl, W.listOf vs2.toArray n0)] := fun p hp => N1 p (hl1 p hp)
    clear hl1 hk1 N1
    dsimp only [nm, V0.mk] at F1
    dsimp only at hv2 hn2 ⊢
    refine wpC_execs_any ?_
    k_steps
    refine wpC_execs_any ?_
    k_steps
    refine wpC_execs_any ?_
    k_steps
    rename Fr _ _ _ _ => F3
    rename News _ _ _ _ => N3
    show wpAny _ _ (call (.ref 150) [.ref _] [(Str.ofString "with_comments", .bool true)]) _ _ _
    refine make_writer X T (dep (m := 2) hdp (by decide)) hh F3 N3 fun x1 dx1 es1 n1 h5 tk5 F5 N5 wd1 l5 l6 => ?_
    clear F3 N3
    k_steps
    refine wpC_execs_any ?_
    k_steps
    rename Fr _ _ _ _ => F3
    rename News _ _ _ _ => N3
    show wpAny _ _ (call (.ref 150) [.ref _] [(Str.ofString "with_comments", .bool true)]) _ _ _
    refine make_writer X T (dep (m := 2) hdp (by decide)) hh F3 N3 fun x2 dx2 es2 n2 h6 tk6 F6 N6 wd2 l7 l8 => ?_
    clear F3 N3
    k_steps
    refine wpC_execs_any ?_
    k_steps
    rename Fr _ _ _ _ => F3
    rename News _ _ _ _ => N3
    rename Heap => h7
    obtain ⟨wh, pl, ou, q1, q2, m7, w1, w2, F7, K7, N7, o1, o2, o3, o4, o5, o6, o7, o8⟩ : ∃ (wh pl ou q1 q2 : Addr) (m : Str → Option Value), Wd es1 q1 ∧ Wd es2 q2 ∧ Fr s.heap L' h7 m ∧ Known m ([(Str.ofString "numbers", .val (.ref nl)), (Str.ofString "out", .val (.ref ou)), (Str.ofString "plain", .val (.ref pl)), (Str.ofString "first", .val (.ref x1)), (Str.ofString "second", .val (.ref x2)), (Str.ofString "whole", .val (.ref wh))]) ∧
      News s.heap L' h7 [(wh, W.listOf #[] 0), (x2, instObj 150 dx2), (dx2, dictOf es2 n2), (q2, bmObj "list.append" (.ref pl)), (x1, instObj 150 dx1), (dx1, dictOf es1 n1), (q1, bmObj "list.append" (.ref ou)), (pl, W.listOf #[] 0), (ou, W.listOf #[] 0), (nl, W.listOf vs2.toArray n0)] ∧
      (@LT.lt Nat _ ou pl ∧ @LT.lt Nat _ pl q1 ∧ @LT.lt Nat _ q1 dx1 ∧ @LT.lt Nat _ dx1 x1 ∧ @LT.lt Nat _ x1 q2 ∧ @LT.lt Nat _ q2 dx2 ∧ @LT.lt Nat _ dx2 x2 ∧ @LT.lt Nat _ x2 wh) :=
      ⟨_, _, _, _, _, _, wd1, wd2, F3, Known.val (by with_unfolding_all rfl) rfl (Known.val (by with_unfolding_all rfl) rfl (Known.val (by with_unfolding_all rfl) rfl (Known.val (by with_unfolding_all rfl) rfl (Known.val (by with_unfolding_all rfl) rfl (Known.val (by with_unfolding_all rfl) rfl Known.nil))))), N3, And.left (by assumption), And.left (by assumption), l5 _ (.head _), l6, And.left (by assumption), l7 _ (.head _), l8, And.left (by assumption)⟩
    obtain ⟨τ7, F7⟩ := Fr.canon F7 K7
    dsimp only [nm, V0.mk] at F7
    clear K7
    have hfar : ∀ b ∈ [wh, pl, ou], ∃ o, h7.get? b = some o := by
      intro b hb
      simp only [List.mem_cons, List.not_mem_nil, or_false] at hb
      rcases hb with rfl | rfl | rfl
      · exact ⟨_, News.get N7 (o := W.listOf #[] 0) (by k_mem)⟩
      · exact ⟨_, News.get N7 (o := W.listOf #[] 0) (by k_mem)⟩
      · exact ⟨_, News.get N7 (o := W.listOf #[] 0) (by k_mem)⟩
    have gnl : h7.get? nl = some (W.listOf vs2.toArray n0) := News.get N7 (by simp)
    refine wpC_execs_cons (wpC_For_my ?_)
    clear F3 N3
    k_steps
    rename Fr _ _ _ _ => F3
    rename News _ _ _ _ => N3
    refine' remarks_spec (A := A.deeper _) (items := vs2.toArray) ?Xr ?Tr (dep (m := 2) hdp (by decide)) hh ?l1 (fun v hv => hv2 v (by simpa using hv)) (by rw [List.size_toArray]; exact Nat.le_trans hn2 (by decide)) ?ret1
    case Xr => exact Frag.In.keeps X F7.keep
    case Tr => exact T.keeps F7.keep
    case l1 => exact ⟨_, gnl, rfl, _, rfl⟩
    intro D rn olds h8 tk8 k8 g8 tot good
    have F8 := Fr.kp F3 k8
    have hnew : ∀ p ∈ (D, W.listOf (olds.map fun o => Value.ref o.T).toArray rn) :: olds.flatMap Old.objs, h8.get? p.1 = some p.2 ∧ p.1 ≠ L' ∧ s.heap.get? p.1 = none := fun p hp => by
      obtain ⟨g1, g2⟩ := g8 p hp
      refine ⟨g1, fun e => ?_, ?_⟩
      · obtain ⟨oL, _, _, hoL, _⟩ := F7.ns
        have g3 : h7.get? p.1 = none := g2
        rw [e, hoL] at g3; cases g3
      · cases q : s.heap.get? p.1 with
        | none => rfl
        | some o => have g3 : h7.get? p.1 = none := g2; rw [F7.keep _ _ q] at g3; cases g3
    have N8 := News.kp N3 k8
    rw [List.size_toArray] at tot
    refine pairsC (L := L') (ts := olds.map fun o => (o.T, Value.int (o.k : Int) o.tk, Value.ref o.S)) hh (by rfl) (by rfl) (by rfl) ?hl1 ?ht1
      (fun c : LwSt => [(wh, W.listOf c.wv.toArray c.wc), (pl, W.listOf c.pv.toArray c.pc), (ou, W.listOf c.ov.toArray c.oc)] ++ ([(x2, instObj 150 dx2), (dx2, dictOf es2 n2), (q2, bmObj "list.append" (.ref pl)), (x1, instObj 150 dx1), (dx1, dictOf es1 n1), (q1, bmObj "list.append" (.ref ou))] ++ ((D, W.listOf (olds.map fun o => Value.ref o.T).toArray rn) :: olds.flatMap Old.objs)))
      ?hfp (fun c => [(Str.ofString "out", .val (.ref ou)), (Str.ofString "plain", .val (.ref pl)), (Str.ofString "first", .val (.ref x1)), (Str.ofString "second", .val (.ref x2)), (Str.ofString "whole", .val (.ref wh))]) (LwP olds) ⟨[], 0, [], [], 0, [], [], 0, []⟩ rfl F8 ?N8 ?K8 ?P8 ?turn ?done
    case hl1 => rw [List.map_map]; exact ⟨_, (hnew _ (.head _)).1, rfl, rn, rfl⟩
    case ht1 =>
      intro x hx
      obtain ⟨y, hy, rfl⟩ := List.mem_map.mp hx
      exact ⟨_, (hnew (y.T, _) (.tail _ (List.mem_flatMap.mpr ⟨y, hy, .head _⟩))).1, rfl, _, rfl⟩
    case hfp =>
      intro b2 hb2
      right
      rcases List.mem_cons.mp hb2 with e2 | hb2
      · exact ⟨W.listOf (olds.map fun o => Value.ref o.T).toArray rn, fun c => by rw [e2]; exact List.mem_append_right _ (List.mem_append_right _ (.head _))⟩
      · obtain ⟨x, hx, rfl⟩ := List.mem_map.mp hb2
        obtain ⟨y, hy, rfl⟩ := List.mem_map.mp hx
        refine ⟨_, fun c => List.mem_append_right _ (List.mem_append_right _ (.tail _ (List.mem_flatMap.mpr ⟨y, hy, .head _⟩)))⟩
    case N8 =>
      intro p hp
      rcases List.mem_append.mp hp with hp | hp
      · rcases List.mem_cons.mp hp with rfl | hp
        · exact N8 _ (by k_mem)
        rcases List.mem_cons.mp hp with rfl | hp
        · exact N8 _ (by k_mem)
        rw [List.mem_singleton.mp hp]
        exact N8 _ (by k_mem)
      rcases List.mem_append.mp hp with hp | hp
      · have in6 : ∀ {a b c d e f g h i j : Addr × Obj}, p ∈ [b, c, d, e, f, g] → p ∈ [a, b, c, d, e, f, g, h, i, j] := fun hp => .tail _ (List.mem_append_left [_, _, _] hp)
        exact N8 p (in6 hp)
      · exact hnew p hp
    case K8 => exact Known.val (by with_unfolding_all rfl) rfl (Known.val (by with_unfolding_all rfl) rfl (Known.val (by with_unfolding_all rfl) rfl (Known.val (by with_unfolding_all rfl) rfl (Known.val (by with_unfolding_all rfl) rfl Known.nil))))
    case P8 => exact ⟨TextVals.nil, TextVals.nil, TextVals.nil, rfl, rfl, Nat.zero_le _, Nat.zero_le _, (fun _ h => nomatch h), Nat.zero_le _, Nat.zero_le _, Nat.zero_le _⟩
    case turn =>
      rintro i c T1 v1 v2 own u τ h9 tk9 ht hP off F9 N9
      dsimp only [nm, V0.mk] at F9
      dsimp only at N9 off ⊢
      rw [List.getElem?_map] at ht
      cases hoi : olds[i]? with
      | none => rw [hoi] at ht; simp at ht
      | some y =>
      rw [hoi] at ht
      simp only [Option.map_some, Option.some.injEq, Prod.mk.injEq] at ht
      obtain ⟨rfl, rfl, rfl⟩ := ht
      have hym : y ∈ olds := List.mem_of_getElem? hoi
      obtain ⟨hys, hyk, hyg⟩ := good y hym
      have hi3 : i < olds.length := (List.getElem?_eq_some_iff.mp hoi).1
      have hsum : y.cs.length ≤ (olds.map fun o => o.cs.length).sum := le_sum (List.mem_map.mpr ⟨y, hym, rfl⟩)
      have hyl : y.cs.length ≤ 10 := lemY tot hn2 (Nat.zero_lt_of_lt hi3) hsum
      have hi11 : i ≤ 11 := Nat.le_trans (Nat.le_of_lt hi3) (Nat.le_trans (Nat.le_add_right _ _) (Nat.le_trans tot (Nat.succ_le_succ hn2)))
      have htl : ∃ tl : List (Addr × Obj), tl = (D, W.listOf (olds.map fun o => Value.ref o.T).toArray rn) :: (olds.flatMap Old.objs ++ own) := ⟨_, rfl⟩
      obtain ⟨tl, htl⟩ := htl
      have N9 : News s.heap L' h9 ((wh, W.listOf c.wv.toArray c.wc) :: (pl, W.listOf c.pv.toArray c.pc) :: (ou, W.listOf c.ov.toArray c.oc) :: (x2, instObj 150 dx2) :: (dx2, dictOf es2 n2) :: (q2, bmObj "list.append" (.ref pl)) :: (x1, instObj 150 dx1) :: (dx1, dictOf es1 n1) :: (q1, bmObj "list.append" (.ref ou)) :: tl) := fun p hp => N9 p (by rw [htl] at hp; exact hp)
      have offt : OwnOff tl [wh, pl, ou] := by
        intro p hp b hb
        rw [htl] at hp
        rcases List.mem_append.mp (show p ∈ ((D, W.listOf (olds.map fun o => Value.ref o.T).toArray rn) :: olds.flatMap Old.objs) ++ own from hp) with hp | hp
        · intro e
          obtain ⟨o, ho⟩ := hfar b hb
          have h3 : h7.get? p.1 = none := (g8 p hp).2
          rw [e, ho] at h3; cases h3
        · exact off p hp b (by
            simp only [List.map_append, List.mem_append]
            exact .inl (by simpa using hb))
      have mS : (y.S, W.listOf y.sv.toArray y.sn) ∈ tl := by
        rw [htl]
        exact .tail _ (List.mem_append_left _ (List.mem_flatMap.mpr ⟨y, hym, .tail _ (.head _)⟩))
      have gS : ∀ {h : Heap} {nw : List (Addr × Obj)}, News s.heap L' h nw → (∀ p ∈ tl, p ∈ nw) → h.IsList y.S y.sv.toArray := fun N hs => ⟨W.listOf y.sv.toArray y.sn, News.get N (hs _ mS), rfl, _, rfl⟩
      refine wpC_execs_cons (wpC_Assign_Name (wpC_CallName ?_))
      k_steps
      rename Fr _ _ _ _ => F10
      rename News _ _ _ _ => N10
      refine ⟨Kept.fn (Frag.In.keeps X F10.keep) (by k_is), ?_⟩
      dsimp only [List.nil_append]
      refine' label_spec (A := A.deeper _) (cs := y.cs) ?Xl ?Tl ?dl hh hg (show A.units + 3 ≤ 190 from Nat.le_trans (Nat.add_le_add_right hu 3) (by decide)) ?sg (Nat.le_trans hyl (by decide)) ?h64 (fun x hx => (hyg x hx).le) ?retl
      case Xl => exact Frag.In.keeps X F10.keep
      case Tl => exact T.keeps F10.keep
      case dl => exact dep (m := 4) hdp (by decide)
      case sg => exact .inr ⟨y.S, y.sv, rfl, gS N10 (fun p hp => mem9 hp), hys⟩
      case h64 => exact Nat.lt_of_le_of_lt (Nat.le_trans (marks_le y.cs) hyl) (by decide)
      intro gs tl2 h11 tk11 k11 htell
      obtain ⟨lb, hlb⟩ : ∃ lb, label (y.cs.filter (· < 128)) (giL (y.cs.filter (· < 128)).length 0 72 gs) = lb := ⟨_, rfl⟩
      rw [hlb]
      have F11 := Fr.kp F10 k11
      have N11 := News.kp N10 k11
      clear F10 N10
      k_steps
      refine wpC_execs_any ?_
      k_steps
      dsimp only
      refine wpC_execs_any ?_
      k_steps
      rename Fr _ _ _ _ => F12
      rename News _ _ _ _ => N12
      refine' bare_spec (A := A.deeper _) (cs := y.cs) ?Xb ?Tb ?db hh ?sgb (Nat.le_trans hyl (by decide)) ?retb
      case Xb => exact Frag.In.keeps X F12.keep
      case Tb => exact T.keeps F12.keep
      case db => exact dep (m := 2) hdp (by decide)
      case sgb => exact .inr ⟨y.S, y.sv, rfl, gS N12 (fun p hp => mem9 hp), hys⟩
      intro D2 ys2 h13 tk13 k13 hD2 hD2o hys2
      have F13 := Fr.kp F12 k13
      have N13 := News.new F12 N12 hD2 hD2o k13
      clear F12 N12
      have hb128 : ∀ c ∈ y.cs.filter (· < 128), c < 128 := fun c hc => by simpa using (List.mem_filter.mp hc).2
      have hbl : (y.cs.filter (· < 128)).length ≤ 10 := Nat.le_trans (List.length_filter_le _ _) hyl
      k_steps
      rw [show Str.ofString "" = Str.empty by decide]
      refine join_texts (News.get N13 (.head _)) hys2.texts (by rw [ones_flat]; exact Nat.le_trans hbl (by decide)) fun t14 tk14 => ?_
      rw [ones_flat]
      have N14 : News s.heap L' h13 _ := fun p hp => N13 p (.tail _ hp)
      clear N13
      k_steps
      refine wpC_execs_any ?_
      k_steps
      rename Fr _ _ _ _ => F15
      rename News _ _ _ _ => N15
      have hysz : y.sv.toArray.size = y.cs.length := by simpa using hys.1
      refine compList (items := y.sv.toArray) hh (gS N15 fun p hp => mem9 hp) (.inr ⟨W.listOf y.sv.toArray y.sn, mem9 mS⟩) ?hzd (by decide) rfl (by rfl) F15 N15 (fun _ => []) (fun _ _ h => nomatch h) (fun c : List Value => c) (fun i c => TextVals c ((y.cs.take i).map esc) ∧ c.length ≤ i) [] rfl rfl ⟨TextVals.nil, Nat.le_refl _⟩ (fun _ _ h => h.2) ?turnd ?doned
      case hzd => rw [hysz, sizeLine_eq]; exact Nat.le_trans hyl (by decide)
      case turnd =>
        rintro i2 c2 v2 hv2 ⟨hc1, hc2⟩ C oC D5 I oI m₂ h16 tk16 hoC hm F16 N16
        have hi5 : i2 < y.cs.length := by exact hysz ▸ (Array.getElem?_eq_some_iff.mp hv2).1
        obtain ⟨t1, ht1⟩ := hys.2 i2 y.cs[i2] (by simp [hi5])
        have ev : v2 = .str (st [y.cs[i2]]) t1 := by have : y.sv[i2]? = some v2 := by simpa using hv2
                                                     rw [ht1] at this; exact (Option.some.inj this).symm
        subst ev
        refine wpAny_pure ?_
        unfold CTurn
        rw [if_pos rfl]
        k_steps
        have htk : y.cs.take (i2 + 1) = y.cs.take i2 ++ [y.cs[i2]] := by rw [List.take_add_one]; simp [hi5]
        rename Fr _ _ _ _ => F17
        rename News _ _ _ _ => N17
        refine written_spec (A := A.deeper _) (Frag.In.keeps X F17.keep) (T.keeps F17.keep) (dep (m := 1) hdp (by decide)) hh fun t18 h18 tk18 k18 => ?_
        exact CEnd.intro (c2 ++ [.str (st (esc y.cs[i2])) t18]) (Fr.kp F17 k18) (News.kp N17 k18) (fun p hp => by simpa using hp) ⟨rfl, by rw [htk, List.map_append]; exact hc1.snoc, by rw [List.length_append]; exact Nat.succ_le_succ hc2⟩
      case doned =>
        rintro c2 D5 h16 tk16 ⟨hc1, hc2⟩ F16 N16
        rw [hysz, List.take_length] at hc1
        dsimp only at N16 ⊢
        have N17 : News s.heap L' h16 _ := fun p hp => N16 p (.tail _ hp)
        k_steps
        have hel2 := Nat.le_trans (esc_len y.cs) (Nat.mul_le_mul_left 5 hyl)
        refine join_texts (News.get N16 (.head _)) hc1 (by rw [← List.flatMap_def]; exact Nat.le_trans hel2 (by decide)) fun t19 tk19 => ?_
        rw [← List.flatMap_def]
        clear N16
        dsimp only [List.nil_append] at N17
        k_steps
        rename Fr _ _ _ _ => F18
        rename News _ _ _ _ => N18
        skip
        obtain ⟨lbz, lbf⟩ := tells_fine hlb htell (Nat.le_trans hbl (by decide))
        have lbf := lbf hyg
        have wd1c := wd1.comment
        have wd1p := wd1.pi
        have wd2c := wd2.comment
        have wd2p := wd2.pi
        obtain ⟨sh, hsh⟩ : ∃ sh, [98, 39] ++ (lb.toList.map (·.toNat)).flatMap shownOf ++ [39] = sh := ⟨_, rfl⟩
        have bo : c.ov.toArray.size ≤ 10000 := by rw [List.size_toArray, hP.o.1]; exact Nat.le_trans hP.on (Nat.le_trans (Nat.mul_le_mul_left 2 hi11) (by decide))
        have bp : c.pv.toArray.size ≤ 10000 := by rw [List.size_toArray, hP.p.1]; exact Nat.le_trans hP.pn (Nat.le_trans (Nat.mul_le_mul_left 2 hi11) (by decide))
        have bw : c.wv.length ≤ 10000 := by rw [hP.w.1]; exact Nat.le_trans hP.wn (Nat.le_trans hi11 (by decide))
        have lt1 := Nat.lt_trans o2 o3
        have lt2 := Nat.lt_trans lt1 o4
        have lt3 := Nat.lt_trans lt2 o5
        have lt4 := Nat.lt_trans lt3 o6
        have lt5 := Nat.lt_trans lt4 o7
        have lt6 := Nat.lt_trans lt5 o8
        have hreP : ∀ p ∈ (x2, instObj 150 dx2) :: (dx2, dictOf es2 n2) :: (q2, bmObj "list.append" (.ref pl)) :: (x1, instObj 150 dx1) :: (dx1, dictOf es1 n1) :: (q1, bmObj "list.append" (.ref ou)) :: tl, p.1 ≠ pl := List.forall_mem_cons.mpr ⟨Nat.ne_of_gt lt5, List.forall_mem_cons.mpr ⟨Nat.ne_of_gt lt4, List.forall_mem_cons.mpr ⟨Nat.ne_of_gt lt3, List.forall_mem_cons.mpr ⟨Nat.ne_of_gt lt2, List.forall_mem_cons.mpr ⟨Nat.ne_of_gt lt1, List.forall_mem_cons.mpr ⟨Nat.ne_of_gt o2, fun p hp => offt p hp pl (.tail _ (.head _))⟩⟩⟩⟩⟩⟩
        have hreO : ∀ p ∈ (x2, instObj 150 dx2) :: (dx2, dictOf es2 n2) :: (q2, bmObj "list.append" (.ref pl)) :: (x1, instObj 150 dx1) :: (dx1, dictOf es1 n1) :: (q1, bmObj "list.append" (.ref ou)) :: tl, p.1 ≠ ou := List.forall_mem_cons.mpr ⟨Nat.ne_of_gt (Nat.lt_trans o1 lt5), List.forall_mem_cons.mpr ⟨Nat.ne_of_gt (Nat.lt_trans o1 lt4), List.forall_mem_cons.mpr ⟨Nat.ne_of_gt (Nat.lt_trans o1 lt3), List.forall_mem_cons.mpr ⟨Nat.ne_of_gt (Nat.lt_trans o1 lt2), List.forall_mem_cons.mpr ⟨Nat.ne_of_gt (Nat.lt_trans o1 lt1), List.forall_mem_cons.mpr ⟨Nat.ne_of_gt (Nat.lt_trans o1 o2), fun p hp => offt p hp ou (.tail _ (.tail _ (.head _)))⟩⟩⟩⟩⟩⟩
        have neW : (wh, W.listOf c.wv.toArray c.wc).1 ≠ ou := Nat.ne_of_gt (Nat.lt_trans o1 lt6)
        have neP : (pl, W.listOf c.pv.toArray c.pc).1 ≠ ou := Nat.ne_of_gt o1
        have neW2 : (wh, W.listOf c.wv.toArray c.wc).1 ≠ pl := Nat.ne_of_gt lt6
        have neO : ou ≠ pl := Nat.ne_of_lt o1
        clear lt1 lt2 lt3 lt4 lt5 lt6
        have w7 := Nat.lt_trans o7 o8
        have w6 := Nat.lt_trans o6 w7
        have w5 := Nat.lt_trans o5 w6
        have w4 := Nat.lt_trans o4 w5
        have w3 := Nat.lt_trans o3 w4
        have w02 := Nat.lt_trans o2 w3
        have w01 := Nat.lt_trans o1 w02
        rcases (four y.k hyk) with ek | ek | ek | ek
        all_goals rw [ek] at F18
        · refine wpC_execs_any ?_
          k_steps
          rename Fr _ _ _ _ => F20
          rename News _ _ _ _ => N20
          refine pd_N (A := A.deeper _) (Frag.In.keeps X F20.keep) (T.keeps F20.keep) (dep (m := 4) hdp (by decide)) hh hlb htell (Nat.le_trans hbl (by decide)) fun t21 h21 tk21 k21 => ?_
          have F21 := Fr.kp F20 k21
          have N21 := News.kp N20 k21
          clear F20 N20 k21
          k_steps
          rename Fr _ _ _ _ => F24
          rename News _ _ _ _ => N24
          refine comment_N (A := A.deeper _) (x := x1) (dx := dx1) (es := es1) (q := q1) (out := ou) (g := fun o => (wh, W.listOf c.wv.toArray c.wc) :: (pl, W.listOf c.pv.toArray c.pc) :: (ou, o) :: (x2, instObj 150 dx2) :: (dx2, dictOf es2 n2) :: (q2, bmObj "list.append" (.ref pl)) :: (x1, instObj 150 dx1) :: (dx1, dictOf es1 n1) :: (q1, bmObj "list.append" (.ref ou)) :: tl) X T (dep (m := 2) hdp (by decide)) hh F24 N24 (by k_mem) (by k_mem) w1 (by k_mem) (by k_mem) (fun o' => Upd.tail neW (Upd.tail neP (Upd.head hreO))) bo (Nat.le_trans hyl (by decide)) fun t24a t24b h25 tk25 F25 N25 => ?_
          clear F24 N24
          (try dsimp only at N25)
          k_steps
          rename Fr _ _ _ _ => F28
          rename News _ _ _ _ => N28
          refine comment_N (A := A.deeper _) (x := x2) (dx := dx2) (es := es2) (q := q2) (out := pl) (g := _) X T (dep (m := 2) hdp (by decide)) hh F28 N28 (by k_mem) (by k_mem) w2 (by k_mem) (by k_mem) (fun o' => Upd.tail neW2 (Upd.head (List.forall_mem_cons.mpr ⟨neO, hreP⟩))) bp (Nat.le_trans hbl (by decide)) fun t28a t28b h29 tk29 F29 N29 => ?_
          clear F28 N28
          (try dsimp only at N29)
          k_steps
          refine add_at (a := [60, 33, 45, 45]) (by decide) rfl (by exact Nat.le_trans (Nat.add_le_add_left hel2 4) (by decide)) fun t34 tk34 => ?_
          k_steps
          refine add_at (b := [45, 45, 62, 10]) rfl (by decide) (by rw [List.length_append]; exact Nat.le_trans (Nat.add_le_add_right (Nat.add_le_add_left hel2 4) 4) (by decide)) fun t35 tk35 => ?_
          k_steps
          dsimp only
          refine wpC_execs_nil ?_
          rename Fr _ _ _ _ => F40
          rename News _ _ _ _ => N40
          simp only [List.push_toArray] at N40
          obtain ⟨tv, N41⟩ : ∃ tv, News s.heap L' _ ((wh, W.listOf (c.wv ++ [Value.str (st ([60, 33, 45, 45] ++ y.cs.flatMap esc ++ [45, 45, 62, 10])) tv]).toArray (c.wc + 1)) :: (pl, W.listOf (c.pv ++ [Value.str (st ([60, 33, 45, 45] ++ (y.cs.filter (· < 128)).flatMap esc ++ [45, 45, 62])) t28a] ++ [Value.str (st [10]) t28b]).toArray (c.pc + 1 + 1)) :: (ou, W.listOf (c.ov ++ [Value.str (st ([60, 33, 45, 45] ++ y.cs.flatMap esc ++ [45, 45, 62])) t24a] ++ [Value.str (st [10]) t24b]).toArray (c.oc + 1 + 1)) :: (x2, instObj 150 dx2) :: (dx2, dictOf es2 n2) :: (q2, bmObj "list.append" (.ref pl)) :: (x1, instObj 150 dx1) :: (dx1, dictOf es1 n1) :: (q1, bmObj "list.append" (.ref ou)) :: tl) := ⟨_, N40⟩
          refine End.intro (_ : LwSt) F40 N41 ?hl (Known.val (by with_unfolding_all rfl) rfl (Known.val (by with_unfolding_all rfl) rfl (Known.val (by with_unfolding_all rfl) rfl (Known.val (by with_unfolding_all rfl) rfl (Known.val (by with_unfolding_all rfl) rfl Known.nil))))) ⟨hP.step hoi (a := [60, 33, 45, 45]) (b := [45, 45, 62]) (cs := y.cs) (wx := [60, 33, 45, 45] ++ y.cs.flatMap esc ++ [45, 45, 62, 10]) ?hw (by decide) (by decide) (by decide) ?hcs ?hok t24a t24b t28a t28b tv (c.oc + 1 + 1) (c.pc + 1 + 1) (c.wc + 1), off⟩
          case hl => exact fun p hp => by rw [htl]; exact hp
          case hw => simp
          case hcs => exact Nat.le_refl _
          case hok => exact fun x hx => (hyg x hx).le
        · refine wpC_execs_any ?_
          k_steps
          rename Fr _ _ _ _ => F20
          rename News _ _ _ _ => N20
          refine pd_N (A := A.deeper _) (Frag.In.keeps X F20.keep) (T.keeps F20.keep) (dep (m := 4) hdp (by decide)) hh hlb htell (Nat.le_trans hbl (by decide)) fun t21 h21 tk21 k21 => ?_
          have F21 := Fr.kp F20 k21
          have N21 := News.kp N20 k21
          clear F20 N20 k21
          refine add_at (a := [118, 61]) (by decide) rfl (by exact Nat.le_trans (Nat.add_le_add_left hyl 2) (by decide)) fun t22 tk22 => ?_
          k_steps
          rename Fr _ _ _ _ => F24
          rename News _ _ _ _ => N24
          refine pi_N (A := A.deeper _) (x := x1) (dx := dx1) (es := es1) (q := q1) (out := ou) (g := fun o => (wh, W.listOf c.wv.toArray c.wc) :: (pl, W.listOf c.pv.toArray c.pc) :: (ou, o) :: (x2, instObj 150 dx2) :: (dx2, dictOf es2 n2) :: (q2, bmObj "list.append" (.ref pl)) :: (x1, instObj 150 dx1) :: (dx1, dictOf es1 n1) :: (q1, bmObj "list.append" (.ref ou)) :: tl) X T (dep (m := 2) hdp (by decide)) hh F24 N24 (by k_mem) (by k_mem) w1 (by k_mem) (by k_mem) (fun o' => Upd.tail neW (Upd.tail neP (Upd.head hreO))) bo (Nat.le_trans hyl (by decide)) fun t24a t24b h25 tk25 F25 N25 => ?_
          clear F24 N24
          (try dsimp only at N25)
          k_steps
          refine add_at (a := [118, 61]) (by decide) rfl (by exact Nat.le_trans (Nat.add_le_add_left hbl 2) (by decide)) fun t26 tk26 => ?_
          k_steps
          rename Fr _ _ _ _ => F28
          rename News _ _ _ _ => N28
          refine pi_N (A := A.deeper _) (x := x2) (dx := dx2) (es := es2) (q := q2) (out := pl) (g := _) X T (dep (m := 2) hdp (by decide)) hh F28 N28 (by k_mem) (by k_mem) w2 (by k_mem) (by k_mem) (fun o' => Upd.tail neW2 (Upd.head (List.forall_mem_cons.mpr ⟨neO, hreP⟩))) bp (Nat.le_trans hbl (by decide)) fun t28a t28b h29 tk29 F29 N29 => ?_
          clear F28 N28
          (try dsimp only at N29)
          k_steps
          refine add_at (a := [60, 63, 116, 32, 118, 61]) (by decide) rfl (by exact Nat.le_trans (Nat.add_le_add_left hel2 6) (by decide)) fun t34 tk34 => ?_
          k_steps
          refine add_at (b := [63, 62, 10]) rfl (by decide) (by rw [List.length_append]; exact Nat.le_trans (Nat.add_le_add_right (Nat.add_le_add_left hel2 6) 3) (by decide)) fun t35 tk35 => ?_
          k_steps
          dsimp only
          refine wpC_execs_nil ?_
          rename Fr _ _ _ _ => F40
          rename News _ _ _ _ => N40
          simp only [List.push_toArray] at N40
          obtain ⟨tv, N41⟩ : ∃ tv, News s.heap L' _ ((wh, W.listOf (c.wv ++ [Value.str (st ([60, 63, 116, 32, 118, 61] ++ y.cs.flatMap esc ++ [63, 62, 10])) tv]).toArray (c.wc + 1)) :: (pl, W.listOf (c.pv ++ [Value.str (st ([60, 63, 116, 32, 118, 61] ++ (y.cs.filter (· < 128)).flatMap esc ++ [63, 62])) t28a] ++ [Value.str (st [10]) t28b]).toArray (c.pc + 1 + 1)) :: (ou, W.listOf (c.ov ++ [Value.str (st ([60, 63, 116, 32, 118, 61] ++ y.cs.flatMap esc ++ [63, 62])) t24a] ++ [Value.str (st [10]) t24b]).toArray (c.oc + 1 + 1)) :: (x2, instObj 150 dx2) :: (dx2, dictOf es2 n2) :: (q2, bmObj "list.append" (.ref pl)) :: (x1, instObj 150 dx1) :: (dx1, dictOf es1 n1) :: (q1, bmObj "list.append" (.ref ou)) :: tl) := ⟨_, N40⟩
          refine End.intro (_ : LwSt) F40 N41 ?hl (Known.val (by with_unfolding_all rfl) rfl (Known.val (by with_unfolding_all rfl) rfl (Known.val (by with_unfolding_all rfl) rfl (Known.val (by with_unfolding_all rfl) rfl (Known.val (by with_unfolding_all rfl) rfl Known.nil))))) ⟨hP.step hoi (a := [60, 63, 116, 32, 118, 61]) (b := [63, 62]) (cs := y.cs) (wx := [60, 63, 116, 32, 118, 61] ++ y.cs.flatMap esc ++ [63, 62, 10]) ?hw (by decide) (by decide) (by decide) ?hcs ?hok t24a t24b t28a t28b tv (c.oc + 1 + 1) (c.pc + 1 + 1) (c.wc + 1), off⟩
          case hl => exact fun p hp => by rw [htl]; exact hp
          case hw => simp
          case hcs => exact Nat.le_refl _
          case hok => exact fun x hx => (hyg x hx).le
        · refine wpC_execs_any ?_
          k_steps
          rename Fr _ _ _ _ => F20
          rename News _ _ _ _ => N20
          refine refusal_N (A := A.deeper _) (x := x1) (dx := dx1) (es := es1) (q := q1) (out := ou) X T (dep (m := 4) hdp (by decide)) (show A.units + 3 ≤ 200 from Nat.le_trans (Nat.add_le_add_right hu 3) (by decide)) hh (Around.frames_deeper hfr) rfl F20 N20 (by k_mem) (by k_mem) w1 (by k_mem) lbz lbf (.inl rfl) hsh fun tm h21 tk21 F21 N21 => ?_
          clear F20 N20
          k_steps
          rename Fr _ _ _ _ => F22
          rename News _ _ _ _ => N22
          refine shown_N (A := A.deeper _) F22 N22 X T (dep (m := 2) hdp (by decide)) hh lbz hsh fun t23 h23 tk23 F23 N23 => ?_
          clear F22 N22
          have hshl := shown_len3 hsh lbz
          refine add_at (a := saidA) (by decide) rfl (by exact Nat.le_trans (Nat.add_le_add_left hshl 17) (by decide)) fun t24 tk24 => ?_
          k_steps
          refine add_at (b := saidB) rfl (by decide) (by rw [List.length_append]; exact Nat.le_trans (Nat.add_le_add_right (Nat.add_le_add_left hshl 17) 13) (by decide)) fun t25 tk25 => ?_
          refine ne_same rfl ?_
          k_steps
          dsimp only
          refine wpC_execs_nil ?_
          exact End.intro c F23 N23 (fun p hp => by rw [htl]; exact hp) (Known.val (by with_unfolding_all rfl) rfl (Known.val (by with_unfolding_all rfl) rfl (Known.val (by with_unfolding_all rfl) rfl (Known.val (by with_unfolding_all rfl) rfl (Known.val (by with_unfolding_all rfl) rfl Known.nil))))) ⟨hP.stay hoi, off⟩
        · refine wpC_execs_any ?_
          k_steps
          · rename (_ == _) = true => hemp
            have hlb0 : lb = #[] := by
              have := eq_of_beq hemp
              exact Array.toList_inj.mp this
            rename Fr _ _ _ _ => F24
            rename News _ _ _ _ => N24
            refine pinil_N (A := A.deeper _) (x := x1) (dx := dx1) (es := es1) (q := q1) (out := ou) (g := fun o => (wh, W.listOf c.wv.toArray c.wc) :: (pl, W.listOf c.pv.toArray c.pc) :: (ou, o) :: (x2, instObj 150 dx2) :: (dx2, dictOf es2 n2) :: (q2, bmObj "list.append" (.ref pl)) :: (x1, instObj 150 dx1) :: (dx1, dictOf es1 n1) :: (q1, bmObj "list.append" (.ref ou)) :: tl) X T (dep (m := 2) hdp (by decide)) hh F24 N24 hlb0 (by k_mem) (by k_mem) w1 (by k_mem) (by k_mem) (fun o' => Upd.tail neW (Upd.tail neP (Upd.head hreO))) bo fun t24a t24b h25 tk25 F25 N25 => ?_
            clear F24 N24
            (try dsimp only at N25)
            k_steps
            rename Fr _ _ _ _ => F28
            rename News _ _ _ _ => N28
            refine pinil_N (A := A.deeper _) (x := x2) (dx := dx2) (es := es2) (q := q2) (out := pl) (g := _) X T (dep (m := 2) hdp (by decide)) hh F28 N28 hlb0 (by k_mem) (by k_mem) w2 (by k_mem) (by k_mem) (fun o' => Upd.tail neW2 (Upd.head (List.forall_mem_cons.mpr ⟨neO, hreP⟩))) bp fun t28a t28b h29 tk29 F29 N29 => ?_
            clear F28 N28
            (try dsimp only at N29)
            k_steps
            rw [show Str.ofString "<?t?>\n" = st [60, 63, 116, 63, 62, 10] by decide] at *
            dsimp only
            refine wpC_execs_nil ?_
            rename Fr _ _ _ _ => F40
            rename News _ _ _ _ => N40
            simp only [List.push_toArray] at N40
            obtain ⟨tv, N41⟩ : ∃ tv, News s.heap L' _ ((wh, W.listOf (c.wv ++ [Value.str (st ([60, 63, 116, 63, 62, 10])) tv]).toArray (c.wc + 1)) :: (pl, W.listOf (c.pv ++ [Value.str (st ([60, 63, 116, 63, 62] ++ ([].filter (· < 128)).flatMap esc ++ [])) t28a] ++ [Value.str (st [10]) t28b]).toArray (c.pc + 1 + 1)) :: (ou, W.listOf (c.ov ++ [Value.str (st ([60, 63, 116, 63, 62] ++ [].flatMap esc ++ [])) t24a] ++ [Value.str (st [10]) t24b]).toArray (c.oc + 1 + 1)) :: (x2, instObj 150 dx2) :: (dx2, dictOf es2 n2) :: (q2, bmObj "list.append" (.ref pl)) :: (x1, instObj 150 dx1) :: (dx1, dictOf es1 n1) :: (q1, bmObj "list.append" (.ref ou)) :: tl) := ⟨_, N40⟩
            refine End.intro (_ : LwSt) F40 N41 ?hl (Known.val (by with_unfolding_all rfl) rfl (Known.val (by with_unfolding_all rfl) rfl (Known.val (by with_unfolding_all rfl) rfl (Known.val (by with_unfolding_all rfl) rfl (Known.val (by with_unfolding_all rfl) rfl Known.nil))))) ⟨hP.step hoi (a := [60, 63, 116, 63, 62]) (b := []) (cs := []) (wx := [60, 63, 116, 63, 62, 10]) ?hw (by decide) (by decide) (by decide) ?hcs ?hok t24a t24b t28a t28b tv (c.oc + 1 + 1) (c.pc + 1 + 1) (c.wc + 1), off⟩
            case hl => exact fun p hp => by rw [htl]; exact hp
            case hw => rfl
            case hcs => exact Nat.zero_le _
            case hok => exact fun _ h => nomatch h
          · rename (_ == _) = false => hemp
            have hlb1 : 0 < lb.size := by
              refine Nat.pos_of_ne_zero fun e => ?_
              rw [Array.eq_empty_of_size_eq_zero e] at hemp
              exact absurd hemp (by decide)
            rename Fr _ _ _ _ => F20
            rename News _ _ _ _ => N20
            refine refusal_N (A := A.deeper _) (x := x1) (dx := dx1) (es := es1) (q := q1) (out := ou) X T (dep (m := 4) hdp (by decide)) (show A.units + 3 ≤ 200 from Nat.le_trans (Nat.add_le_add_right hu 3) (by decide)) hh (Around.frames_deeper hfr) rfl F20 N20 (by k_mem) (by k_mem) w1 (by k_mem) lbz lbf (.inr hlb1) hsh fun tm h21 tk21 F21 N21 => ?_
            clear F20 N20
            k_steps
            rename Fr _ _ _ _ => F22
            rename News _ _ _ _ => N22
            refine shown_N (A := A.deeper _) F22 N22 X T (dep (m := 2) hdp (by decide)) hh lbz hsh fun t23 h23 tk23 F23 N23 => ?_
            clear F22 N22
            have hshl := shown_len3 hsh lbz
            refine add_at (a := saidA) (by decide) rfl (by exact Nat.le_trans (Nat.add_le_add_left hshl 17) (by decide)) fun t24 tk24 => ?_
            k_steps
            refine add_at (b := saidB) rfl (by decide) (by rw [List.length_append]; exact Nat.le_trans (Nat.add_le_add_right (Nat.add_le_add_left hshl 17) 13) (by decide)) fun t25 tk25 => ?_
            refine ne_same rfl ?_
            k_steps
            dsimp only
            refine wpC_execs_nil ?_
            exact End.intro c F23 N23 (fun p hp => by rw [htl]; exact hp) (Known.val (by with_unfolding_all rfl) rfl (Known.val (by with_unfolding_all rfl) rfl (Known.val (by with_unfolding_all rfl) rfl (Known.val (by with_unfolding_all rfl) rfl (Known.val (by with_unfolding_all rfl) rfl Known.nil))))) ⟨hP.stay hoi, off⟩
    case done =>
      rintro c m9 τ9 h9 tk9 hP F9 N9
      dsimp only [nm, V0.mk] at F9
      dsimp only at N9 ⊢
      rw [List.length_map] at hP
      have hss : signSum olds olds.length = (olds.map fun o => o.cs.length).sum := by unfold signSum; rw [List.take_length]
      have hTl := hP.len
      have hTh := hP.high
      have hon := hP.o.1
      rw [hss] at hTl hTh
      have lw : c.wt.flatten.length ≤ 10000 := lemW hTl tot hn2
      have lo : (c.ot.flatten).length ≤ 10000 := by rw [hP.ow]; exact lw
      have lp : (c.pt.flatten).length ≤ 10000 := by rw [hP.pw]; exact Nat.le_trans (List.length_filter_le _ _) lw
      have N9 : News s.heap L' h9 [(wh, W.listOf c.wv.toArray c.wc), (pl, W.listOf c.pv.toArray c.pc), (ou, W.listOf c.ov.toArray c.oc)] := fun p hp => N9 p (List.mem_append_left _ hp)
      refine wpC_execs_any ?_
      k_steps
      refine join_textsL ⟨W.listOf c.wv.toArray c.wc, News.get N9 (by k_mem), rfl, _, rfl⟩ hP.w (Nat.le_trans lw (by decide)) fun t10 tk10 => ?_
      k_steps
      refine wpC_execs_any ?_
      k_steps
      rename Fr _ _ _ _ => F11
      rename News _ _ _ _ => N11
      refine join_textsL ⟨W.listOf c.ov.toArray c.oc, News.get N11 (by k_mem), rfl, _, rfl⟩ hP.o (Nat.le_trans lo (by decide)) fun t12 tk12 => ?_
      walk1
      refine ne_same (by rw [hP.ow]) ?_
      k_steps
      rename Fr _ _ _ _ => F13
      rename News _ _ _ _ => N13
      refine join_textsL ⟨W.listOf c.pv.toArray c.pc, News.get N13 (by k_mem), rfl, _, rfl⟩ hP.p (Nat.le_trans lp (by decide)) fun t14 tk14 => ?_
      k_steps
      rename Fr _ _ _ _ => F15
      rename News _ _ _ _ => N15
      refine' bare_spec (A := A.deeper _) (cs := c.wt.flatten) ?Xd ?Td ?dd hh ?sgd (Nat.le_trans lw (by decide)) ?retd
      case Xd => exact Frag.In.keeps X F15.keep
      case Td => exact T.keeps F15.keep
      case dd => exact dep (m := 2) hdp (by decide)
      case sgd => exact .inl ⟨_, rfl⟩
      intro D3 ys3 h16 tk16 k16 hD3 hD3o hys3
      have F16 := Fr.kp F15 k16
      have N16 := News.new F15 N15 hD3 hD3o k16
      clear F15 N15
      k_steps
      refine join_texts (News.get N16 (.head _)) hys3.texts (by rw [ones_flat]; exact Nat.le_trans (List.length_filter_le _ _) (Nat.le_trans lw (by decide))) fun t17 tk17 => ?_
      rw [ones_flat]
      refine ne_same (by rw [hP.pw]) ?_
      have N17 : News s.heap L' h16 _ := fun p hp => N16 p (.tail _ hp)
      clear N16
      k_steps
      dsimp only
      refine wpC_execs_cons (wpC_Assign_Name (wpC_CallName ?_))
      k_steps
      rename Fr _ _ _ _ => F18
      rename News _ _ _ _ => N18
      refine ⟨Kept.fn (Frag.In.keeps X F18.keep) (by k_is), ?_⟩
      dsimp only [List.nil_append]
      refine' label_spec (A := A.deeper _) (cs := c.wt.flatten) ?Xm ?Tm ?dm hh hg (show A.units + 3 ≤ 190 from Nat.le_trans (Nat.add_le_add_right hu 3) (by decide)) ?sgm (Nat.le_trans lw (by decide)) ?h64m hP.ok ?retm
      case Xm => exact Frag.In.keeps X F18.keep
      case Tm => exact T.keeps F18.keep
      case dm => exact dep (m := 4) hdp (by decide)
      case sgm => exact .inl ⟨_, rfl⟩
      case h64m => rw [marks_len]; exact Nat.lt_of_le_of_lt hTh (Nat.lt_of_le_of_lt (Nat.le_trans (Nat.le_add_left _ _) (Nat.le_trans tot (Nat.succ_le_succ hn2))) (by decide))
      intro gs tl3 h19 tk19 k19 htell
      have F19 := Fr.kp F18 k19
      have N19 := News.kp N18 k19
      clear F18 N18
      have hbl : (c.wt.flatten.filter (· < 128)).length ≤ 10000 := Nat.le_trans (List.length_filter_le _ _) lw
      obtain ⟨lb, hlb⟩ : ∃ lb, label (c.wt.flatten.filter (· < 128)) (giL (c.wt.flatten.filter (· < 128)).length 0 72 gs) = lb := ⟨_, rfl⟩
      rw [hlb]
      k_steps
      refine wpC_execs_any ?_
      k_steps
      rename Fr _ _ _ _ => F20
      rename News _ _ _ _ => N20
      refine pd_N (A := A.deeper _) (Frag.In.keeps X F20.keep) (T.keeps F20.keep) (dep (m := 4) hdp (by decide)) hh hlb htell hbl fun t21 h21 tk21 k21 => ?_
      have F21 := Fr.kp F20 k21
      have N21 := News.kp N20 k21
      clear F20 N20 k21
      k_steps
      refine join_textsL ⟨W.listOf c.ov.toArray c.oc, News.get N21 (by k_mem), rfl, _, rfl⟩ hP.o (Nat.le_trans lo (by decide)) fun t22 tk22 => ?_
      refine eq_same (by rw [hP.ow]) ?_
      k_steps
      exact ret 0 _ _ F21.keep
end Mine
end
section
namespace Mine
theorem walk : WalkC qv loose0 (XL qv []) (InK hd.heap_1) rw0.toRowW lawD.1 lawD.2 := by
  intro w s₀ s₁ mg mb G Y a o pm cd doc dV kV ho hd2 hcd hD hmg hg args vals as hpre hlay hrd hwl hlo
  have X : (hd.heap_1 w.params).In s₁.heap := Y
  have T := G.T
  have e1 : mg (Str.ofString "law") = some (.ref 275) := mg_of X T.g (by k_is)
  have e2 : lawD.1.name = Str.ofString "law" := defOf_name law_def
  rw [e2, e1] at hmg
  obtain rfl : 275 = a := by cases hmg; rfl
  clear hmg e1 e2 ho hd2 hcd hD G Y
  wrow_args hpre hlay hrd hwl hlo
  rename IntsAre _ _ => hI
  rename Heap.IsList _ _ _ => hL
  rename ¬ (_ : Int) < _ => hlen
  refine law_spec (A := callerA) X T (by decide) rfl rfl (by decide) rfl hL hI (by rw [hI.length]; omega) fun t h' tk' k => ?_
  refine GoodW.toG ⟨.inl ⟨_, .bool true, [], rfl, raisesW_false ?_, .bool true, ?_, unshared_nil⟩, k, rfl, hg⟩
  · wrow_none_raised
  · wrow_post
theorem holds : PySem.Challenge.rw_nq0278_01.Holds := row walk
end Mine
end
theorem PySem.Challenge.cw_nq0278_01_holds : PySem.Challenge.rw_nq0278_01.Holds :=
  Mine.holds
