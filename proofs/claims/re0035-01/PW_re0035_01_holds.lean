import PyProof.Rows.All
import Wide.All
import OpenK.AllK
import Wide.FinOn
import PySem.Challenge.RW_re0035_01
open PySem PySem.W PyProof.Rows PySem.Calls
set_option Elab.async false
set_option maxRecDepth 100000
set_option maxHeartbeats 8000000
local macro_rules | `(tactic| omega) => `(tactic| first | decide | with_reducible exact Nat.le_refl _ | with_reducible exact Nat.le_trans (by assumption) (by decide) | (with_reducible ((iterate 4 (try refine Nat.succ_lt_succ ?_)); exact Nat.lt_of_lt_of_le (by assumption) (by decide))) | (with_reducible ((iterate 8 (try refine Nat.le_succ_of_le ?_)); first | assumption | exact Nat.le_refl _)) | lia | omega +splitNatSub)
namespace Mine
local macro_rules | `(tactic| o_head (kmHook $k $a $e $_)) => `(tactic| assumption)
theorem hd (h : OpenRow.Holds PySem.Challenge.rw_re0035_01.row) : OpenRow.Holds PySem.Challenge.rw_re0035_01.row := by
  k_head
theorem top_off : True := by
  w_top off
  trivial
end Mine
open Mine
local macro_rules | `(tactic| walk_at "my mem") => `(tactic| first | exact List.Mem.head _ | assumption | (refine' List.Mem.tail _ ?_; walk_at "my mem") | (refine' List.mem_append_right _ ?_; walk_at "my mem") | (refine' List.mem_append_left _ ?_; walk_at "my mem"))
local macro_rules | `(tactic| walk_at "my sub") => `(tactic| first | exact List.forall_mem_nil _ | (refine' List.forall_mem_cons.mpr ⟨?a, ?b⟩; (case a => walk_at "my mem"); (case b => walk_at "my sub")) | (refine' List.forall_mem_append.mpr ⟨?a, ?b⟩; (case a => walk_at "my sub"); (case b => walk_at "my sub")) | (intro _ _; walk_at "my mem"))
local macro_rules | `(tactic| walk_at "my all") => `(tactic| first | exact List.forall_mem_nil _ | assumption | (refine' List.forall_mem_cons.mpr ⟨?a, ?b⟩; (case a => k_ne); (case b => walk_at "my all")))
local macro_rules | `(tactic| walk_at "my upd") => `(tactic| first | (refine' Upd.head ?a; (case a => walk_at "my all")) | (refine' Upd.tail ?a ?b; (case a => k_ne); (case b => walk_at "my upd")))

section
open PySem PySem.W PyProof.Rows PySem.Calls
namespace Mine
/-- of a statement: its kind, its block, its else -/
noncomputable def stmtParts : Stmt → Nat × List Stmt × List Stmt
  | .For _ _ b e _ => (1, b, e)
  | .While _ b e _ => (2, b, e)
  | .If _ b e _ => (3, b, e)
  | .FunctionDef _ _ b _ _ _ _ _ _ _ => (4, b, [])
  | _ => (0, [], [])
noncomputable def blockFrom (k : Nat) : List Stmt → List Stmt
  | s :: r => bif Nat.beq (stmtParts s).1 k then (stmtParts s).2.1 else blockFrom k r
  | [] => []
noncomputable def behind (k : Nat) : List Stmt → List Stmt
  | s :: r => bif Nat.beq (stmtParts s).1 k then r else behind k r
  | [] => []
noncomputable def firstOf (k : Nat) : List Stmt → Stmt
  | s :: r => bif Nat.beq (stmtParts s).1 k then s else firstOf k r
  | [] => .Pass ⟨0, 0, 0, 0⟩
noncomputable def lastOf (z : Nat × List Stmt × List Stmt) : List Stmt → Nat × List Stmt × List Stmt
  | s :: r => lastOf (stmtParts s) r
  | [] => z
theorem list3 {α : Type} : ∀ {l : List α}, l.length = 3 → ∃ a b c, l = [a, b, c]
  | [a, b, c], _ => ⟨a, b, c, rfl⟩
theorem lt2 {i : Nat} (h : @LT.lt Nat _ i 2) : i = 0 ∨ i = 1 := by
  rcases i with _ | _ | i
  · exact .inl rfl
  · exact .inr rfl
  · exact absurd h (Nat.not_lt.mpr (Nat.le_add_left 2 i))
theorem lt3 {i : Nat} (h : @LT.lt Nat _ i 3) : i = 0 ∨ i = 1 ∨ i = 2 := by
  rcases i with _ | _ | _ | i
  · exact .inl rfl
  · exact .inr (.inl rfl)
  · exact .inr (.inr rfl)
  · exact absurd h (Nat.not_lt.mpr (Nat.le_add_left 3 i))
@[reducible] noncomputable def tupR3 (a b c : Addr) : Obj := { cls := .type "tuple", data := .seq #[.ref a, .ref b, .ref c] }
@[reducible] noncomputable def tupI2 (a : Int) (ta : Tok) (b : Int) (tb : Tok) : Obj := { cls := .type "tuple", data := .seq #[.int a ta, .int b tb] }
/-- lists of three that stand all over -/
@[reducible] noncomputable def heardO (W : Nat → Str) (tw : Nat → Tok) (n : Nat) : Obj := listOf #[.str (W 0) (tw 0), .str (W 1) (tw 1), .str (W 2) (tw 2)] n
@[reducible] noncomputable def marksO (ms : Nat → Nat) (mt : Nat → Tok) (n : Nat) : Obj := listOf #[.str ⟨#[ms 0]⟩ (mt 0), .str ⟨#[ms 1]⟩ (mt 1), .str ⟨#[ms 2]⟩ (mt 2)] n
@[reducible] noncomputable def refsO (as : Nat → Addr) (n : Nat) : Obj := listOf #[.ref (as 0), .ref (as 1), .ref (as 2)] n
@[reducible] noncomputable def ref3O (a b c : Addr) (n : Nat) : Obj := listOf #[.ref a, .ref b, .ref c] n
@[reducible] noncomputable def strs3O (a b c : Str) (ta tb tc : Tok) (n : Nat) : Obj := listOf #[.str a ta, .str b tb, .str c tc] n
@[reducible] noncomputable def signs3O (a b c : Nat) (ta tb tc : Tok) (n : Nat) : Obj := listOf #[.str ⟨#[a]⟩ ta, .str ⟨#[b]⟩ tb, .str ⟨#[c]⟩ tc] n
/-- what is to hold at the end, as a name: the walk's terms stay small -/
structure Ends {α : Type} (Q Q' : α → Shared → Prop) : Prop where
  of : ∀ v s', Q v s' → Q' v s'
theorem hideQ {α : Type} {M : Model} {A : Around} {t : Sem α} {Q : α → Shared → Prop} {E : Value → Shared → Prop} {s : Shared} (h : ∀ Q' : α → Shared → Prop, Ends Q Q' → wpAny M A t Q' E s) : wpAny M A t Q E s := h Q ⟨fun _ _ x => x⟩
/-- an expression whose branches meet again -/
structure JoinAt {α : Type} (s : Shared) (P : α → Nat → Prop) (v : α) (s' : Shared) : Prop where
  is : ∃ tk' : Nat, @LE.le Nat _ s.toks tk' ∧ s' = { s with toks := tk' } ∧ P v tk'
theorem join_exp {α : Type} {M : Model} {A : Around} {t : Sem α} {Q : α → Shared → Prop} {E : Value → Shared → Prop} {s : Shared} (P : α → Nat → Prop)
    (h1 : wpAny M A t (JoinAt s P) E s) (h2 : ∀ v (tk' : Nat), @LE.le Nat _ s.toks tk' → P v tk' → Q v { s with toks := tk' }) : wpAny M A t Q E s :=
  wpAny_mono h1 (fun v s' ⟨tk', l, e, p⟩ => by subst e; exact h2 v tk' l p) fun _ _ y => y
/-- the goal as a name, while its premises are taken apart -/
theorem bring {P : Prop} (h : ∀ G : Prop, (P → G) → G) : P := h P id

/-- a call of a plain def of the top, its body walked over the heap less the objects it may change -/
theorem enter {prog : Program} {w : World} {A : Around} {E : Value → Shared → Prop} {s : Shared} {K : Frag} {h₀ : Heap} {mg mb : Str → Option Value} {p : Program} {loose : List Str} {mean : ExcName → Option Value} {Q : Value → Shared → Prop} {as : List Addr}
    {name qual : Str} {params : Arguments} {body : List Stmt} {scope : Scope} {dV kV doc pm cdv ct oc : Value} {an od : Option Addr} {osl : Array (Option Value)} {f : Addr} {args : List Value} {binds : List (Str × Value)}
    (X : K.In h₀) (T : Top p loose mean mg mb h₀) (hk : ∀ b o, h₀.get? b = some o → s.heap.get? b = some o) (hna : ∀ a ∈ as, h₀.get? a = none)
    (ho : K.lookup f = some ⟨oc, od, .func (fnOf name qual params body scope dV kV doc pm an cdv ct), osl⟩) (hcd : codeIn K cdv qual = true) (hroom : A.depth < recursionLimit)
    (hbind : BindsTo s (fnOf name qual params body scope dV kV doc pm an cdv ct) ⟨args, []⟩ binds) (hloc : ∀ y ∈ binds, scope.names.lookup y.1 = some .local)
    (hco : scope.isCoroutine = false) (hgen : scope.isGenerator = false) (hkd : scope.kind = .function) (hcell : ∀ x ∈ scope.names, x.2 ≠ .cell)
    (h : ∀ g L h₁ tk, g = hideAll s.heap as → L = s.heap.objs.size → Fr g L h₁ (fun y => binds.reverse.lookup y) → (∀ b o, s.heap.get? b = some o → h₁.get? b = some o) → K.In g → Top p loose mean mg mb g →
      wpAny (model prog w) (A.deeper (envOf qual scope L f cdv)) (execs body (envOf qual scope L f cdv))
        (fun fl s' => Q (match fl with | .ret v => v | _ => .none) s') (fun _ _ => False)
        { s with heap := h₁, toks := tk }) : wpAny (model prog w) A (call (.ref f) args) Q E s := by
  have st : ∀ b o, h₀.get? b = some o → (hideAll s.heap as).get? b = some o := fun b o e => hideAll_get _ (hk b o e) fun q => by
    rw [hna b q] at e; cases e
  refine wpAny_call ?_
  refine codeAny_call_def (fd := fnOf name qual params body scope dV kV doc pm an cdv ct) (body := body) (binds := binds) hroom ((X.keeps hk) _ _ ho) rfl (T.nolimit.keeps hk) (codeRec_of (X.keeps hk) hcd) rfl hbind hcell hloc (fun h₁ hns hk₁ => ?_) hco hgen hkd
  refine wpAny_mono (h _ _ h₁ _ rfl rfl ⟨hns, fun b o e => hk₁ b o (of_hideAll _ e), Nat.le_of_eq (hideAll_size _ _)⟩ hk₁ (X.keeps st) (T.keeps st)) (fun fl s' hl => ?_) fun _ _ y => y.elim
  cases fl <;> exact hl

/-- a mark at which the walk stands still -/
noncomputable def Hold (P : Prop) : Prop := P
theorem hold {P : Prop} (h : Hold P) : P := h
theorem news_sub {h₀ : Heap} {L : Addr} {h : Heap} {l l' : List (Addr × Obj)} (N : News h₀ L h l) (hs : ∀ p ∈ l', p ∈ l) : News h₀ L h l' := fun p hp => N p (hs p hp)
theorem news_nil {h₀ h : Heap} {L : Addr} : News h₀ L h [] := fun _ hp => nomatch hp
theorem get_hide {as : List Addr} {h : Heap} {b : Addr} {o : Obj} (e : h.get? b = some o) (n : b ∉ as) : (hideAll h as).get? b = some o := hideAll_get as e n
theorem none_of_hide {as : List Addr} {h : Heap} {b : Addr} (e : (hideAll h as).get? b = none) (n : b ∉ as) : h.get? b = none := by
  cases q : h.get? b with
  | none => rfl
  | some o => rw [get_hide q n] at e; cases e
end Mine
end

section
open PySem PySem.W PyProof.Rows PySem.Calls
namespace Mine

/-- between the turns of a loop -/
inductive LoopInv (h₀ : Heap) (L I : Addr) (n : Nat) (St : Nat → Heap → Prop) (J : Nat → (Str → Option Value) → List (Addr × Obj) → Array GenState → Nat → Prop) (d : Drawn) (os : OsState) (k : Nat) (s₁ : Shared) : Prop
  | mk : ∀ i m₁ news₁ gs h tk, k = n - i → i ≤ n → s₁ = ⟨h, gs, d, tk, os⟩ → St i h → J i m₁ news₁ gs tk → (∀ p ∈ news₁, p.1 ≠ I) → Fr h₀ L h m₁ → News h₀ L h news₁ → LoopInv h₀ L I n St J d os k s₁
section
variable {prog : Program} {w : World} {A : Around} {E : Value → Shared → Prop} {s : Shared} {env : Env} {h₀ : Heap} {x : Str} {px : Pos} {target : Expr} {body : List Stmt} {Q : Flow → Shared → Prop}
  {m : Str → Option Value} {news : List (Addr × Obj)}

/-- what a turn that does not leave the loop leaves -/
inductive TurnNext (h₀ : Heap) (L I : Addr) (oI : Obj) (kp : List Addr) (h : Heap) (d : Drawn) (os : OsState) (J : (Str → Option Value) → List (Addr × Obj) → Array GenState → Nat → Prop) (s' : Shared) : Prop
  | mk : ∀ m' news' gs' h' tk', (s' = ⟨h', gs', d, tk', os⟩) → Fr h₀ L h' m' → News h₀ L h' ((I, oI) :: news') → (∀ p ∈ news', p.1 ≠ I) →
      (∀ b ∈ kp, ∀ o, h.get? b = some o → h'.get? b = some o) → J m' news' gs' tk' → TurnNext h₀ L I oI kp h d os J s'
/-- what a turn must leave: the frame, the ledger with the iterator as it was, the word for the next turn -/
noncomputable def TurnEndT (h₀ : Heap) (L I : Addr) (oI : Obj) (kp : List Addr) (h : Heap) (d : Drawn) (os : OsState) (J : (Str → Option Value) → List (Addr × Obj) → Array GenState → Nat → Prop) (Q : Flow → Shared → Prop) (f : Flow) (s' : Shared) : Prop :=
  match f with
  | .next | .cont => TurnNext h₀ L I oI kp h d os J s'
  | .brk => Q .next s'
  | .ret v => Q (.ret v) s'

/-- a loop with any target: the turn begins at the assignment -/
theorem loop_coreG {I : Addr} {fp wr kp : List Addr} {n : Nat} {P : Nat → Value → Prop} {St : Nat → Heap → Prop}
    (J : Nat → (Str → Option Value) → List (Addr × Obj) → Array GenState → Nat → Prop)
    (W : Walks prog w A I fp wr n P St) (hgo : ∀ i v (s : Shared) (Q : Unit → Shared → Prop) (E : Value → Shared → Prop), St i s.heap → Q () s → wpAny (model prog w) A (letOwnedTupleGo target (.ref I) v) Q E s)
    (hIf : I ∈ fp) (hfp : ∀ b ∈ fp, b = I ∨ b ∈ kp) (hwr : ∀ b ∈ wr, b = I) (hLI : env.locals ≠ I) (hI : h₀.get? I = none)
    (F : Fr h₀ env.locals s.heap m) (N : News h₀ env.locals s.heap news) (hnI : ∀ p ∈ news, p.1 ≠ I) (hst : St 0 s.heap) (hIo : ∀ i h, St i h → ∃ o, h.get? I = some o) (hmono : ∀ i m n g t t', t ≤ t' → J i m n g t → J i m n g t') (hj : J 0 m news s.gens s.toks)
    (turn : ∀ i v oI m₁ news₁ gs h tk, i < n → P i v → J i m₁ news₁ gs tk → (∀ p ∈ news₁, p.1 ≠ I) → St (i + 1) h → Fr h₀ env.locals h m₁ → News h₀ env.locals h ((I, oI) :: news₁) →
      wpAny (model prog w) A (assign target env v) (fun _ s₂ => wpAny (model prog w) A (execs body env) (TurnEndT h₀ env.locals I oI kp h s.drawn s.os (J (i + 1)) Q) (fun _ _ => False) s₂) (fun _ _ => False) ⟨h, gs, s.drawn, tk, s.os⟩)
    (done : ∀ m₁ news₁ gs h tk, J n m₁ news₁ gs tk → Fr h₀ env.locals h m₁ → News h₀ env.locals h news₁ → Q .next ⟨h, gs, s.drawn, tk, s.os⟩) :
    codeAny (model prog w) A (.forLoop target (.ref I) body [] env) (fun r s' => match r with | .ok f => Q f s' | .error e => cameBackBy (model prog w) A env E e s') s := by
  let R : Result → Shared → Prop := fun r s' => match r with | .ok f => Q f s' | .error e => cameBackBy (model prog w) A env E e s'
  refine codeAny_forLoop_any (R := R) (I := LoopInv h₀ env.locals I n St J s.drawn s.os) ?_ n
    ⟨0, m, news, s.gens, s.heap, s.toks, rfl, Nat.zero_le _, rfl, hst, hj, hnI, F, N⟩
  rintro k s₁ ⟨i, m₁, news₁, gs, h, tk, rfl, hi, rfl, hst₁, hj₁, hn₁, F₁, N₁⟩
  have kept : ∀ {h h' : Heap}, (∀ b o, b ∉ wr → h.get? b = some o → h'.get? b = some o) → ∀ b o, b ≠ I → h.get? b = some o → h'.get? b = some o :=
    fun hk b o hb e => hk b o (fun q => hb (hwr b q)) e
  by_cases hlt : i < n
  · refine wpAny_with_toks (n := tk) (Nat.le_refl _) (W.item i _ _ _ hlt hst₁ fun v h₁ tk₁ hv hst₂ hk htk₁ => ?_)
    replace htk₁ : tk ≤ tk₁ := htk₁
    have hk' := kept hk
    have F₂ : Fr h₀ env.locals h₁ m₁ := ⟨F₁.ns.at' fun o e => hk' _ o hLI e, fun b o e => hk' b o (fun q => by rw [q, hI] at e; cases e) (F₁.keep b o e), F₁.above⟩
    obtain ⟨oI, hoI⟩ := hIo _ _ hst₂
    have N₂ : News h₀ env.locals h₁ ((I, oI) :: news₁) := fun p hp => by
      rcases List.mem_cons.mp hp with rfl | hp
      · exact ⟨hoI, fun q => hLI q.symm, hI⟩
      · exact ⟨hk' _ _ (hn₁ p hp) (N₁ p hp).1, (N₁ p hp).2⟩
    refine hgo _ _ _ _ _ hst₂ ?_
    refine wpAny_mono (turn i v oI m₁ news₁ gs h₁ tk₁ hlt hv (hmono _ _ _ _ _ _ htk₁ hj₁) hn₁ hst₂ F₂ N₂) (fun _ s₂ t₂ => wpAny_mono t₂ (fun f s₃ t => ?_) fun _ _ y => y.elim) fun _ _ y => y.elim
    have nx : TurnNext h₀ env.locals I oI kp h₁ s.drawn s.os (J (i + 1)) s₃ → ∃ m, m < n - i ∧ LoopInv h₀ env.locals I n St J s.drawn s.os m s₃ := by
      rintro ⟨m', news', gs', h', tk', rfl, F', N', hn', hkp, hj'⟩
      refine ⟨n - (i + 1), by omega, i + 1, m', news', gs', h', tk', rfl, hlt, rfl, W.frame _ _ _ hst₂ fun b hb o e => ?_, hj', hn', F', fun p hp => N' p (.tail _ hp)⟩
      rcases hfp b hb with r | r
      · subst r
        rw [hoI] at e
        cases e
        exact (N' _ (.head _)).1
      · exact hkp b r o e
    cases f with
    | next => exact nx t
    | cont => exact nx t
    | brk => exact t
    | ret v => exact t
  · have hin : i = n := by omega
    subst hin
    refine wpAny_with_toks (n := tk) (Nat.le_refl _) (W.done _ _ _ hst₁ fun h₁ tk₁ hk htk₁ => ?_)
    replace htk₁ : tk ≤ tk₁ := htk₁
    have hk' := kept hk
    refine wpAny_execs_nil (done m₁ news₁ gs h₁ tk₁ (hmono _ _ _ _ _ _ htk₁ hj₁) ⟨F₁.ns.at' fun o e => hk' _ o hLI e, fun b o e => hk' b o (fun q => by rw [q, hI] at e; cases e) (F₁.keep b o e), F₁.above⟩ fun p hp => ⟨hk' _ _ (hn₁ p hp) (N₁ p hp).1, (N₁ p hp).2⟩)

theorem loop_coreT {I : Addr} {fp wr kp : List Addr} {n : Nat} {P : Nat → Value → Prop} {St : Nat → Heap → Prop}
    (J : Nat → (Str → Option Value) → List (Addr × Obj) → Array GenState → Nat → Prop)
    (W : Walks prog w A I fp wr n P St) (hIf : I ∈ fp) (hfp : ∀ b ∈ fp, b = I ∨ b ∈ kp) (hwr : ∀ b ∈ wr, b = I) (hkI : ∀ b ∈ kp, b ≠ env.locals) (hLI : env.locals ≠ I) (hI : h₀.get? I = none)
    (hx : env.kindOf x = some .local) (hp : (env.scope.kind == .class || (env.scope.kind == .module && env.locals != env.globals)) = false)
    (F : Fr h₀ env.locals s.heap m) (N : News h₀ env.locals s.heap news) (hnI : ∀ p ∈ news, p.1 ≠ I) (hst : St 0 s.heap) (hIo : ∀ i h, St i h → ∃ o, h.get? I = some o) (hmono : ∀ i m n g t t', t ≤ t' → J i m n g t → J i m n g t') (hj : J 0 m news s.gens s.toks)
    (turn : ∀ i v oI m₁ news₁ gs h tk, i < n → P i v → J i m₁ news₁ gs tk → (∀ p ∈ news₁, p.1 ≠ I) → St (i + 1) h → Fr h₀ env.locals h (fun y => if y = x then some v else m₁ y) → News h₀ env.locals h ((I, oI) :: news₁) →
      wpAny (model prog w) A (execs body env) (TurnEndT h₀ env.locals I oI kp h s.drawn s.os (J (i + 1)) Q) (fun _ _ => False) ⟨h, gs, s.drawn, tk, s.os⟩)
    (done : ∀ m₁ news₁ gs h tk, J n m₁ news₁ gs tk → Fr h₀ env.locals h m₁ → News h₀ env.locals h news₁ → Q .next ⟨h, gs, s.drawn, tk, s.os⟩) :
    codeAny (model prog w) A (.forLoop (.Name x px) (.ref I) body [] env) (fun r s' => match r with | .ok f => Q f s' | .error e => cameBackBy (model prog w) A env E e s') s := by
  refine loop_coreG J W (fun i v s' Q' E' _ q => ?_) hIf hfp hwr hLI hI F N hnI hst hIo hmono hj (fun i v oI m₁ news₁ gs h tk hlt hv hj₁ hn₁ hst₂ F₂ N₂ => ?_) done
  · rw [show letOwnedTupleGo (.Name x px) (.ref I) v = pure () from rfl]
    exact wpAny_pure q
  · refine wpAny_assign_Name (wpAny_storeName_local hx F₂.ns (fun h₂ hns hsb => ?_) hp)
    have hst₃ : St (i + 1) h₂ := W.frame _ _ _ hst₂ fun b hb o e => hsb.extBut b o (fun q => by
      rcases hfp b hb with r | r
      · exact hLI (q.symm.trans r)
      · exact hkI b r q) e
    refine wpAny_mono (turn i v oI m₁ news₁ gs h₂ _ hlt hv (hmono _ _ _ _ _ _ (Nat.le_succ _) hj₁) hn₁ hst₃ (F₂.set hns hsb) (N₂.set hsb)) (fun f s₃ t => ?_) fun _ _ y => y
    have nx : TurnNext h₀ env.locals I oI kp h₂ s.drawn s.os (J (i + 1)) s₃ → TurnNext h₀ env.locals I oI kp h s.drawn s.os (J (i + 1)) s₃ := by
      rintro ⟨m', news', gs', h', tk', r1, r2, r3, r4, r5, r6⟩
      exact ⟨m', news', gs', h', tk', r1, r2, r3, r4, fun b hb o e => r5 b hb o (hsb.extBut b o (fun q => hkI b hb q) e), r6⟩
    cases f with
    | next => exact nx t
    | cont => exact nx t
    | brk => exact t
    | ret v => exact t

theorem fr_size (F : Fr h₀ env.locals s.heap m) : env.locals ≠ s.heap.objs.size ∧ h₀.get? s.heap.objs.size = none := by
  have h1 := F.ns.lt
  refine ⟨Nat.ne_of_lt h1, ?_⟩
  cases q : h₀.get? s.heap.objs.size with
  | none => rfl
  | some o => exact absurd (Heap.lt_size (F.keep _ _ q)) (Nat.lt_irrefl _)
theorem news_push {o : Obj} (N : News h₀ env.locals s.heap news) : News h₀ env.locals (s.heap.push o) news := fun p hp => ⟨Heap.get?_push_of_some _ (N p hp).1, (N p hp).2⟩
theorem news_ne_size (N : News h₀ env.locals s.heap news) : ∀ p ∈ news, p.1 ≠ s.heap.objs.size := fun p hp => Nat.ne_of_lt (Heap.lt_size (N p hp).1)

/-- for x in a text -/
theorem for_strT {xt : Str} {tx : Tok} (J : Nat → (Str → Option Value) → List (Addr × Obj) → Array GenState → Nat → Prop) (hh : A.handled = none)
    (hx : env.kindOf x = some .local) (hp : (env.scope.kind == .class || (env.scope.kind == .module && env.locals != env.globals)) = false)
    (F : Fr h₀ env.locals s.heap m) (N : News h₀ env.locals s.heap news) (hmono : ∀ i m n g t t', t ≤ t' → J i m n g t → J i m n g t') (hj : J 0 m news s.gens s.toks)
    (turn : ∀ i c t I oI m₁ news₁ gs h tk, xt.cps[i]? = some c → J i m₁ news₁ gs tk → (∀ p ∈ news, p.1 < I) → (∀ p ∈ news₁, p.1 ≠ I) → Fr h₀ env.locals h (fun y => if y = x then some (.str ⟨#[c]⟩ t) else m₁ y) → News h₀ env.locals h ((I, oI) :: news₁) →
      wpAny (model prog w) A (execs body env) (TurnEndT h₀ env.locals I oI [] h s.drawn s.os (J (i + 1)) Q) (fun _ _ => False) ⟨h, gs, s.drawn, tk, s.os⟩)
    (done : ∀ m₁ news₁ gs h tk, J xt.cps.size m₁ news₁ gs tk → Fr h₀ env.locals h m₁ → News h₀ env.locals h news₁ → Q .next ⟨h, gs, s.drawn, tk, s.os⟩) :
    wpAny (model prog w) A (pyIter (.str xt tx)) (fun it s₂ => codeAny (model prog w) A (.forLoop (.Name x px) it body [] env) (fun r s' => match r with | .ok f => Q f s' | .error e => cameBackBy (model prog w) A env E e s') s₂) E s := by
  refine wpAny_pyIter_strU ?_
  obtain ⟨hL, hI⟩ := fr_size F
  have lt : ∀ p ∈ news, p.1 < s.heap.objs.size := fun p hp => Heap.lt_size (N p hp).1
  have key : ∀ (ty : String), (Walks prog w A s.heap.objs.size [s.heap.objs.size] [s.heap.objs.size] xt.cps.size (SignAt xt) (fun i h => h.IsStrIter s.heap.objs.size ty xt tx i)) →
      codeAny (model prog w) A (.forLoop (.Name x px) (.ref s.heap.objs.size) body [] env) (fun r s' => match r with | .ok f => Q f s' | .error e => cameBackBy (model prog w) A env E e s')
        { s with heap := s.heap.push { cls := .type ty, data := .fields #[.str xt tx, .int 0 0] } } := fun ty W =>
    loop_coreT (kp := []) J W (.head _) (fun b hb => .inl (List.mem_singleton.mp hb)) (fun b hb => List.mem_singleton.mp hb) (fun _ hb => nomatch hb) hL hI hx hp (F.push _) (news_push N) (news_ne_size N)
      ⟨_, Heap.get?_push_size _ rfl, rfl, rfl⟩ (fun i h st => let ⟨o, ho, _⟩ := st; ⟨o, ho⟩) hmono hj
      (fun i v oI m₁ news₁ gs h tk _ hP hj₁ hne _ F₁ N₁ => by
        obtain ⟨c, u, hc, rfl⟩ := hP
        exact turn i c u _ oI m₁ news₁ gs h tk hc hj₁ lt hne F₁ N₁) done
  cases ha : xt.cps.all (· < 128)
  · have e : strIterType xt = "str_iterator" := by simp [strIterType, ha]
    rw [e]; exact key _ (Walks.strWide hh _ xt tx)
  · have e : strIterType xt = "str_ascii_iterator" := by simp [strIterType, ha]
    rw [e]; exact key _ (Walks.strAscii hh _ xt tx)

/-- for x in a list that lies in the ledger or below; the list's address must stay as it is through every turn -/
theorem for_listT {l : Addr} {items : Array Value} (J : Nat → (Str → Option Value) → List (Addr × Obj) → Array GenState → Nat → Prop) (hh : A.handled = none)
    (hx : env.kindOf x = some .local) (hp : (env.scope.kind == .class || (env.scope.kind == .module && env.locals != env.globals)) = false)
    (F : Fr h₀ env.locals s.heap m) (N : News h₀ env.locals s.heap news) (hl : s.heap.IsList l items) (hlL : l ≠ env.locals) (hmono : ∀ i m n g t t', t ≤ t' → J i m n g t → J i m n g t') (hj : J 0 m news s.gens s.toks)
    (turn : ∀ i v I oI m₁ news₁ gs h tk, items[i]? = some v → J i m₁ news₁ gs tk → (∀ p ∈ news, p.1 < I) → (∀ p ∈ news₁, p.1 ≠ I) → h.IsList l items → Fr h₀ env.locals h (fun y => if y = x then some v else m₁ y) → News h₀ env.locals h ((I, oI) :: news₁) →
      wpAny (model prog w) A (execs body env) (TurnEndT h₀ env.locals I oI [l] h s.drawn s.os (J (i + 1)) Q) (fun _ _ => False) ⟨h, gs, s.drawn, tk, s.os⟩)
    (done : ∀ m₁ news₁ gs h tk, J items.size m₁ news₁ gs tk → Fr h₀ env.locals h m₁ → News h₀ env.locals h news₁ → Q .next ⟨h, gs, s.drawn, tk, s.os⟩) :
    wpAny (model prog w) A (pyIter (.ref l)) (fun it s₂ => codeAny (model prog w) A (.forLoop (.Name x px) it body [] env) (fun r s' => match r with | .ok f => Q f s' | .error e => cameBackBy (model prog w) A env E e s') s₂) E s := by
  refine wpAny_pyIter_list hl ?_
  obtain ⟨hL, hI⟩ := fr_size F
  have lt : ∀ p ∈ news, p.1 < s.heap.objs.size := fun p hp => Heap.lt_size (N p hp).1
  have hls : l ≠ s.heap.objs.size := let ⟨_, ho, _⟩ := hl; Nat.ne_of_lt (Heap.lt_size ho)
  refine loop_coreT (kp := [l]) J (Walks.list hh s.heap.objs.size l hls items) (.head _) (fun b hb => ?_) (fun b hb => List.mem_singleton.mp hb) (fun b hb => by rw [List.mem_singleton.mp hb]; exact hlL) hL hI hx hp (F.push _) (news_push N) (news_ne_size N)
    ⟨⟨_, Heap.get?_push_size _ rfl, rfl, rfl⟩, let ⟨o, ho, r⟩ := hl; ⟨o, Heap.get?_push_of_some _ ho, r⟩⟩ (fun i h st => let ⟨o, ho, _⟩ := st.1; ⟨o, ho⟩) hmono hj
    (fun i v oI m₁ news₁ gs h tk _ hP hj₁ hne st F₁ N₁ => turn i v _ oI m₁ news₁ gs h tk hP hj₁ lt hne st.2 F₁ N₁) done
  rcases List.mem_cons.mp hb with r | r
  · exact .inl r
  · exact .inr r

/-- for x in range(n) -/
theorem for_rangeT {r : Addr} {n : Nat} {t u v : Tok} (J : Nat → (Str → Option Value) → List (Addr × Obj) → Array GenState → Nat → Prop) (hh : A.handled = none)
    (hx : env.kindOf x = some .local) (hp : (env.scope.kind == .class || (env.scope.kind == .module && env.locals != env.globals)) = false)
    (F : Fr h₀ env.locals s.heap m) (N : News h₀ env.locals s.heap news) (hr : IsRange s.heap r 0 n 1 t u v) (hn : n < 1000) (hmono : ∀ i m n g t t', t ≤ t' → J i m n g t → J i m n g t') (hj : J 0 m news s.gens s.toks)
    (turn : ∀ i t I oI m₁ news₁ gs h tk, i < n → J i m₁ news₁ gs tk → (∀ p ∈ news, p.1 < I) → (∀ p ∈ news₁, p.1 ≠ I) → Fr h₀ env.locals h (fun y => if y = x then some (.int (i : Nat) t) else m₁ y) → News h₀ env.locals h ((I, oI) :: news₁) →
      wpAny (model prog w) A (execs body env) (TurnEndT h₀ env.locals I oI [] h s.drawn s.os (J (i + 1)) Q) (fun _ _ => False) ⟨h, gs, s.drawn, tk, s.os⟩)
    (done : ∀ m₁ news₁ gs h tk, J n m₁ news₁ gs tk → Fr h₀ env.locals h m₁ → News h₀ env.locals h news₁ → Q .next ⟨h, gs, s.drawn, tk, s.os⟩) :
    wpAny (model prog w) A (pyIter (.ref r)) (fun it s₂ => codeAny (model prog w) A (.forLoop (.Name x px) it body [] env) (fun r s' => match r with | .ok f => Q f s' | .error e => cameBackBy (model prog w) A env E e s') s₂) E s := by
  have hz : Builtin.Range.rangeSize 0 n 1 = n := by unfold Builtin.Range.rangeSize; rw [if_pos (by decide)]; split <;> omega
  refine wpAny_pyIter_range hr (by simp [Builtin.Range.small, Builtin.Range.rangeFitsLong]; rw [hz]; omega) ?_
  obtain ⟨hL, hI⟩ := fr_size F
  have lt : ∀ p ∈ news, p.1 < s.heap.objs.size := fun p hp => Heap.lt_size (N p hp).1
  refine loop_coreT (kp := []) J (Walks.range hh s.heap.objs.size 0 1 n) (.head _) (fun b hb => .inl (List.mem_singleton.mp hb)) (fun b hb => List.mem_singleton.mp hb) (fun _ hb => nomatch hb) hL hI hx hp (F.push _) (news_push N) (news_ne_size N)
    ?_ (fun i h st => ⟨_, st⟩) hmono hj
    (fun i v oI m₁ news₁ gs h tk hlt hP hj₁ hne st F₁ N₁ => by
      obtain ⟨t, rfl⟩ := hP
      have e : (0 : Int) + (i : Int) * 1 = i := by omega
      rw [e] at F₁
      exact turn i t _ oI m₁ news₁ gs h tk hlt hj₁ lt hne F₁ N₁) done
  show (s.heap.push _).get? _ = _
  rw [Heap.get?_push_size _ rfl, hz]
  simp [rawInt]

theorem turn_endT {L I : Addr} {oI : Obj} {kp : List Addr} {h h' : Heap} {d : Drawn} {os : OsState} {J : (Str → Option Value) → List (Addr × Obj) → Array GenState → Nat → Prop} {m' : Str → Option Value} {news' nw : List (Addr × Obj)} {gs' : Array GenState} {tk' : Nat}
    (F : Fr h₀ L h' m') (N : News h₀ L h' nw) (hs : ∀ p ∈ (I, oI) :: news', p ∈ nw) (hne : ∀ p ∈ news', p.1 ≠ I) (hkp : ∀ b ∈ kp, ∀ o, h.get? b = some o → h'.get? b = some o) (hj : J m' news' gs' tk') :
    TurnEndT h₀ L I oI kp h d os J Q .next ⟨h', gs', d, tk', os⟩ := ⟨m', news', gs', h', tk', rfl, F, news_sub N hs, hne, hkp, hj⟩

theorem turn_endT' {L I : Addr} {oI : Obj} {kp : List Addr} {h h' : Heap} {d : Drawn} {os : OsState} {J : (Str → Option Value) → List (Addr × Obj) → Array GenState → Nat → Prop} {m' : Str → Option Value} {news' : List (Addr × Obj)} {gs' : Array GenState} {tk' : Nat}
    (F : Fr h₀ L h' m') (N : News h₀ L h' ((I, oI) :: news')) (hne : ∀ p ∈ news', p.1 ≠ I) (hkp : ∀ b ∈ kp, ∀ o, h.get? b = some o → h'.get? b = some o) (hj : J m' news' gs' tk') :
    TurnEndT h₀ L I oI kp h d os J Q .next ⟨h', gs', d, tk', os⟩ := ⟨m', news', gs', h', tk', rfl, F, N, hne, hkp, hj⟩
/-- the same, blind to the counter of tokens -/
noncomputable def TurnEnd (h₀ : Heap) (L I : Addr) (oI : Obj) (kp : List Addr) (h : Heap) (d : Drawn) (os : OsState) (J : (Str → Option Value) → List (Addr × Obj) → Array GenState → Prop) (Q : Flow → Shared → Prop) (f : Flow) (s' : Shared) : Prop :=
  TurnEndT h₀ L I oI kp h d os (fun m n g _ => J m n g) Q f s'
theorem for_str {xt : Str} {tx : Tok} (J : Nat → (Str → Option Value) → List (Addr × Obj) → Array GenState → Prop) (hh : A.handled = none)
    (hx : env.kindOf x = some .local) (hp : (env.scope.kind == .class || (env.scope.kind == .module && env.locals != env.globals)) = false)
    (F : Fr h₀ env.locals s.heap m) (N : News h₀ env.locals s.heap news) (hj : J 0 m news s.gens)
    (turn : ∀ i c t I oI m₁ news₁ gs h tk, xt.cps[i]? = some c → J i m₁ news₁ gs → (∀ p ∈ news, p.1 < I) → (∀ p ∈ news₁, p.1 ≠ I) → Fr h₀ env.locals h (fun y => if y = x then some (.str ⟨#[c]⟩ t) else m₁ y) → News h₀ env.locals h ((I, oI) :: news₁) →
      wpAny (model prog w) A (execs body env) (TurnEnd h₀ env.locals I oI [] h s.drawn s.os (J (i + 1)) Q) (fun _ _ => False) ⟨h, gs, s.drawn, tk, s.os⟩)
    (done : ∀ m₁ news₁ gs h tk, J xt.cps.size m₁ news₁ gs → Fr h₀ env.locals h m₁ → News h₀ env.locals h news₁ → Q .next ⟨h, gs, s.drawn, tk, s.os⟩) :
    wpAny (model prog w) A (pyIter (.str xt tx)) (fun it s₂ => codeAny (model prog w) A (.forLoop (.Name x px) it body [] env) (fun r s' => match r with | .ok f => Q f s' | .error e => cameBackBy (model prog w) A env E e s') s₂) E s :=
  for_strT (fun i m n g _ => J i m n g) hh hx hp F N (fun _ _ _ _ _ _ _ h => h) hj turn done

theorem for_list {l : Addr} {items : Array Value} (J : Nat → (Str → Option Value) → List (Addr × Obj) → Array GenState → Prop) (hh : A.handled = none)
    (hx : env.kindOf x = some .local) (hp : (env.scope.kind == .class || (env.scope.kind == .module && env.locals != env.globals)) = false)
    (F : Fr h₀ env.locals s.heap m) (N : News h₀ env.locals s.heap news) (hl : s.heap.IsList l items) (hlL : l ≠ env.locals) (hj : J 0 m news s.gens)
    (turn : ∀ i v I oI m₁ news₁ gs h tk, items[i]? = some v → J i m₁ news₁ gs → (∀ p ∈ news, p.1 < I) → (∀ p ∈ news₁, p.1 ≠ I) → h.IsList l items → Fr h₀ env.locals h (fun y => if y = x then some v else m₁ y) → News h₀ env.locals h ((I, oI) :: news₁) →
      wpAny (model prog w) A (execs body env) (TurnEnd h₀ env.locals I oI [l] h s.drawn s.os (J (i + 1)) Q) (fun _ _ => False) ⟨h, gs, s.drawn, tk, s.os⟩)
    (done : ∀ m₁ news₁ gs h tk, J items.size m₁ news₁ gs → Fr h₀ env.locals h m₁ → News h₀ env.locals h news₁ → Q .next ⟨h, gs, s.drawn, tk, s.os⟩) :
    wpAny (model prog w) A (pyIter (.ref l)) (fun it s₂ => codeAny (model prog w) A (.forLoop (.Name x px) it body [] env) (fun r s' => match r with | .ok f => Q f s' | .error e => cameBackBy (model prog w) A env E e s') s₂) E s :=
  for_listT (fun i m n g _ => J i m n g) hh hx hp F N hl hlL (fun _ _ _ _ _ _ _ h => h) hj turn done

theorem for_range {r : Addr} {n : Nat} {t u v : Tok} (J : Nat → (Str → Option Value) → List (Addr × Obj) → Array GenState → Prop) (hh : A.handled = none)
    (hx : env.kindOf x = some .local) (hp : (env.scope.kind == .class || (env.scope.kind == .module && env.locals != env.globals)) = false)
    (F : Fr h₀ env.locals s.heap m) (N : News h₀ env.locals s.heap news) (hr : IsRange s.heap r 0 n 1 t u v) (hn : n < 1000) (hj : J 0 m news s.gens)
    (turn : ∀ i t I oI m₁ news₁ gs h tk, i < n → J i m₁ news₁ gs → (∀ p ∈ news, p.1 < I) → (∀ p ∈ news₁, p.1 ≠ I) → Fr h₀ env.locals h (fun y => if y = x then some (.int (i : Nat) t) else m₁ y) → News h₀ env.locals h ((I, oI) :: news₁) →
      wpAny (model prog w) A (execs body env) (TurnEnd h₀ env.locals I oI [] h s.drawn s.os (J (i + 1)) Q) (fun _ _ => False) ⟨h, gs, s.drawn, tk, s.os⟩)
    (done : ∀ m₁ news₁ gs h tk, J n m₁ news₁ gs → Fr h₀ env.locals h m₁ → News h₀ env.locals h news₁ → Q .next ⟨h, gs, s.drawn, tk, s.os⟩) :
    wpAny (model prog w) A (pyIter (.ref r)) (fun it s₂ => codeAny (model prog w) A (.forLoop (.Name x px) it body [] env) (fun r s' => match r with | .ok f => Q f s' | .error e => cameBackBy (model prog w) A env E e s') s₂) E s :=
  for_rangeT (fun i m n g _ => J i m n g) hh hx hp F N hr hn (fun _ _ _ _ _ _ _ h => h) hj turn done

theorem turn_end {L I : Addr} {oI : Obj} {kp : List Addr} {h h' : Heap} {d : Drawn} {os : OsState} {J : (Str → Option Value) → List (Addr × Obj) → Array GenState → Prop} {m' : Str → Option Value} {news' nw : List (Addr × Obj)} {gs' : Array GenState} {tk' : Nat}
    (F : Fr h₀ L h' m') (N : News h₀ L h' nw) (hs : ∀ p ∈ (I, oI) :: news', p ∈ nw) (hne : ∀ p ∈ news', p.1 ≠ I) (hkp : ∀ b ∈ kp, ∀ o, h.get? b = some o → h'.get? b = some o) (hj : J m' news' gs') :
    TurnEnd h₀ L I oI kp h d os J Q .next ⟨h', gs', d, tk', os⟩ := ⟨m', news', gs', h', tk', rfl, F, news_sub N hs, hne, hkp, hj⟩

theorem turn_end' {L I : Addr} {oI : Obj} {kp : List Addr} {h h' : Heap} {d : Drawn} {os : OsState} {J : (Str → Option Value) → List (Addr × Obj) → Array GenState → Prop} {m' : Str → Option Value} {news' : List (Addr × Obj)} {gs' : Array GenState} {tk' : Nat}
    (F : Fr h₀ L h' m') (N : News h₀ L h' ((I, oI) :: news')) (hne : ∀ p ∈ news', p.1 ≠ I) (hkp : ∀ b ∈ kp, ∀ o, h.get? b = some o → h'.get? b = some o) (hj : J m' news' gs') :
    TurnEnd h₀ L I oI kp h d os J Q .next ⟨h', gs', d, tk', os⟩ := ⟨m', news', gs', h', tk', rfl, F, N, hne, hkp, hj⟩
end
end Mine
end

section
open PySem PySem.W PyProof.Rows PySem.Calls
namespace Mine
end Mine
end

section
open PySem PySem.W PyProof.Rows PySem.Calls
namespace Mine
/-- a call of a def of the top with cells, its body walked over the heap less the objects it may change -/
theorem enterCT {prog : Program} {w : World} {A : Around} {E : Value → Shared → Prop} {s : Shared} {K : Frag} {h₀ : Heap} {mg mb : Str → Option Value} {p : Program} {loose : List Str} {mean : ExcName → Option Value} {Q : Value → Shared → Prop} {as : List Addr}
    {name qual : Str} {params : Arguments} {body : List Stmt} {scope : Scope} {dV kV doc pm cdv ct oc : Value} {an od : Option Addr} {osl : Array (Option Value)} {f : Addr} {args : List Value} {binds : List (Str × Value)}
    (X : K.In h₀) (T : Top p loose mean mg mb h₀) (hk : ∀ b o, h₀.get? b = some o → s.heap.get? b = some o) (hna : ∀ a ∈ as, h₀.get? a = none)
    (ho : K.lookup f = some ⟨oc, od, .func (fnOf name qual params body scope dV kV doc pm an cdv ct), osl⟩) (hcd : codeIn K cdv qual = true) (hroom : A.depth < recursionLimit)
    (hbind : BindsTo s (fnOf name qual params body scope dV kV doc pm an cdv ct) ⟨args, []⟩ binds) (hkind : (binds.all fun y => scope.names.lookup y.1 == some .local || scope.names.lookup y.1 == some .cell) = true)
    (hnd : ((cellsFrom 0 scope.names []).map (·.1)).Nodup)
    (hco : scope.isCoroutine = false) (hgen : scope.isGenerator = false) (hkd : scope.kind = .function)
    (h : ∀ g L h₁ tk cells, g = hideAll s.heap as → L = s.heap.objs.size → Fr g L h₁ (bindL (envOfC qual scope L f cdv).kindOf binds fun _ => none) → (∀ b o, s.heap.get? b = some o → h₁.get? b = some o) → News g L h₁ cells → (∀ p ∈ cells, L < p.1) →
      CellsAre (bindC (envOfC qual scope L f cdv).kindOf binds fun _ => none) (cellsFrom (L + 1) scope.names []) cells → K.In g → Top p loose mean mg mb g → s.toks ≤ tk →
      wpAny (model prog w) (A.deeper (envOfC qual scope L f cdv)) (execs body (envOfC qual scope L f cdv))
        (fun fl s' => Q (match fl with | .ret v => v | _ => .none) s') (fun _ _ => False)
        { s with heap := h₁, toks := tk }) : wpAny (model prog w) A (call (.ref f) args) Q E s := by
  have st : ∀ b o, h₀.get? b = some o → (hideAll s.heap as).get? b = some o := fun b o e => hideAll_get _ (hk b o e) fun q => by
    rw [hna b q] at e; cases e
  refine wpAny_call ?_
  refine codeAny_call_function hroom ((X.keeps hk) _ _ ho) rfl hco hgen rfl (codeRec_of (X.keeps hk) hcd) (hbind _ _ _ _ ?_)
  refine wpAny_with_toks (Nat.le_refl _) (wpAny_newFunctionEnv_cells hkd (kindsX hkind _) fun env' he s' x htk => ?_)
  subst he
  refine ⟨(T.nolimit.keeps hk).keeps x.toInCall.keep, codeAny_func ?_⟩
  obtain ⟨h₁, tk, rfl, _⟩ := x.done
  have hk₁ := x.toInCall.keep
  obtain ⟨cells, NC, Y⟩ := Cl.news (h₀ := s.heap) (Nat.le_refl _) fun n c hm => ⟨x.cell n c (lookup_of_mem_nodup (cellsFrom_names scope.names 0 (s.heap.objs.size + 1) [] [] rfl ▸ hnd) hm), x.above n c hm⟩
  have NC' : News (hideAll s.heap as) s.heap.objs.size h₁ cells := fun p hp => by
    refine ⟨(NC p hp).1, (NC p hp).2.1, ?_⟩
    cases q : (hideAll s.heap as).get? p.1 with
    | none => rfl
    | some o => have := of_hideAll _ q; rw [(NC p hp).2.2] at this; cases this
  have hlt : ∀ p ∈ cells, s.heap.objs.size < p.1 := by
    have go : ∀ {cs : List (Str × Addr)} {cells : List (Addr × Obj)} {cm : Str → Option Value}, CellsAre cm cs cells → (∀ n c, (n, c) ∈ cs → s.heap.objs.size < c) → ∀ p ∈ cells, s.heap.objs.size < p.1 := by
      intro cs cells cm Y
      induction Y with
      | nil => exact fun _ p hp => nomatch hp
      | cons _ _ ih =>
        intro a p hp
        rcases List.mem_cons.mp hp with rfl | hp
        · exact a _ _ (.head _)
        · exact ih (fun n c hm => a n c (.tail _ hm)) p hp
    exact go Y x.above
  refine wpAny_mono (h _ _ h₁ tk cells rfl rfl ⟨x.toInCall.ns, fun b o e => hk₁ b o (of_hideAll _ e), Nat.le_of_eq (hideAll_size _ _)⟩ hk₁ NC' hlt Y (X.keeps st) (T.keeps st) htk) (fun fl s' hl => ?_) fun _ _ y => y.elim
  cases fl <;> exact hl
end Mine
end

section
open PySem PySem.W PyProof.Rows PySem.Calls PySem.Builtin PySem.Builtin.Str
namespace Mine

noncomputable def find4 (x y : PySem.Str) (i j : Int) : Int := match occurrences x y (fromIndex x.length i) (min (fromIndex x.length j) x.length) 1 with | k :: _ => (k : Int) | [] => -1
noncomputable def rfind4 (x y : PySem.Str) (i j : Int) : Int := match lastOccurrence x y (fromIndex x.length i) (min (fromIndex x.length j) x.length) with | some k => (k : Int) | none => -1
theorem gives_find4 (x y : PySem.Str) (i j : Int) (t u v w : Tok) : Gives («str.find» ⟨[.str x t, .str y u, .int i v, .int j w], []⟩) (.int (find4 x y i j)) := by
  unfold find4
  show Gives (match occurrences x y (fromIndex x.length i) (min (fromIndex x.length j) x.length) 1 with | k :: _ => retInt k | [] => (do rule "str.find.not-found"; retInt (-1))) _
  cases occurrences x y (fromIndex x.length i) (min (fromIndex x.length j) x.length) 1 with
  | nil => exact .rule (.of_eq rfl)
  | cons k _ => exact .of_eq rfl
theorem gives_rfind4 (x y : PySem.Str) (i j : Int) (t u v w : Tok) : Gives («str.rfind» ⟨[.str x t, .str y u, .int i v, .int j w], []⟩) (.int (rfind4 x y i j)) := by
  unfold rfind4
  show Gives (match lastOccurrence x y (fromIndex x.length i) (min (fromIndex x.length j) x.length) with | some k => retInt k | none => (do rule "str.rfind.not-found"; retInt (-1))) _
  cases lastOccurrence x y (fromIndex x.length i) (min (fromIndex x.length j) x.length) with
  | none => exact .rule (.of_eq rfl)
  | some k => exact .of_eq rfl
section
variable {prog : Program} {w : World} {A : Around} {E : Value → Shared → Prop} {s : Shared} {x y : PySem.Str} {t u v v' : Tok} {i j : Int} {Q : Value → Shared → Prop}
theorem call_find4 (hq : Q (.int (find4 x y i j) s.toks) { s with toks := s.toks + 1 }) : wpAny (model prog w) A (call (.builtin "str.find") [.str x t, .str y u, .int i v, .int j v']) Q E s :=
  call_gives F.slot_str_find (typeIs_str _ _ _) F.entry_str_find (F.args_str_find_4 _ _ _ _) (gives_find4 x y i j t u v v') hq
theorem call_rfind4 (hq : Q (.int (rfind4 x y i j) s.toks) { s with toks := s.toks + 1 }) : wpAny (model prog w) A (call (.builtin "str.rfind") [.str x t, .str y u, .int i v, .int j v']) Q E s :=
  call_gives F.slot_str_rfind (typeIs_str _ _ _) F.entry_str_rfind (F.args_str_rfind_4 _ _ _ _) (gives_rfind4 x y i j t u v v') hq
end
local macro_rules | `(tactic| walk_at "call builtin:str.find cons nil") => `(tactic| refine call_find4 ?_)
local macro_rules | `(tactic| walk_at "call builtin:str.rfind cons nil") => `(tactic| refine call_rfind4 ?_)

/-- what _strip_exception_details gives back -/
noncomputable def stripE1 (x : PySem.Str) : Int := if 0 ≤ Txt.find x (Str.ofString "\n") then Txt.find x (Str.ofString "\n") else x.length
noncomputable def stripE2 (x : PySem.Str) : Int := if 0 ≤ find4 x (Str.ofString ":") 0 (stripE1 x) then find4 x (Str.ofString ":") 0 (stripE1 x) else stripE1 x
noncomputable def stripF (x : PySem.Str) : PySem.Str := Txt.slice x (some (if 0 ≤ rfind4 x (Str.ofString ".") 0 (stripE2 x) then rfind4 x (Str.ofString ".") 0 (stripE2 x) + 1 else 0)) (some (stripE2 x))
theorem stripE1_of {x : PySem.Str} {r : Int} (h : 0 ≤ Txt.find x (Str.ofString "\n") ∧ r = Txt.find x (Str.ofString "\n") ∨ ¬0 ≤ Txt.find x (Str.ofString "\n") ∧ r = ↑x.length) : stripE1 x = r := by
  unfold stripE1
  rcases h with ⟨a, rfl⟩ | ⟨a, rfl⟩
  · rw [if_pos a]
  · rw [if_neg a]

theorem strip_c : ∀ {w : World} {dp u : Nat} {fr : Option (List Env)} {gd : Option (List Code)} {h₀ : Heap} {mg mb : PySem.Str → Option Value} {s : Shared} {p : Program} {loose : List PySem.Str} {mean : ExcName → Option Value}
    {Q E : Value → Shared → Prop} (X : (hd.heap_1 w.params).In h₀) (T : Top p loose mean mg mb h₀) (hk : ∀ b o, h₀.get? b = some o → s.heap.get? b = some o) (hroom : dp < 600)
    (x : PySem.Str) (tk : Tok) (hx : x.length ≤ 1000)
    (h : ∀ y t' h' tk', y = stripF x → (∀ b o, s.heap.get? b = some o → h'.get? b = some o) → Q (.str y t') { s with heap := h', toks := tk' }),
    wpAny (model PySem.Challenge.rw_re0035_01.row.prog w) ⟨none, dp, fr, gd, u⟩ (call (.ref 28) [.str x tk]) Q E s := by
  k_fill
  intro w dp u fr gd h₀ mg mb s p loose mean Q E X T hk hroom x tk hx h
  refine' enter (as := []) (binds := [(Str.ofString "msg", Value.str x tk)]) X T hk ?n ?k6 ?k7 ?k8 ?k9 ?kB ?c2 ?c3 ?c4 ?c5 ?_
  case n => intro a ha; cases ha
  case k6 => k_is
  case k7 => k_is
  case k8 => simp only [recursionLimit]; omega
  case k9 => exact BindsTo.of_eq rfl
  case c5 => decide
  case kB => exact locs rfl
  case c2 => exact rfl
  case c3 => exact rfl
  case c4 => exact rfl
  intro g L h₁ tk₁ hg hL F' hk₁ X' T'
  have N' : News g L h₁ [] := news_nil
  clear X T hk
  try k_fold
  k_steps
  all_goals
    (with_reducible rename _ ∨ _ => hr)
    have e1 := stripE1_of hr
    have kp := fun b o (e : s.heap.get? b = some o) => Fr.keep (by assumption) b o (by rw [hg]; exact e)
    refine h _ _ _ _ ?_ kp
    simp only [stripF, stripE2, e1]
    simp only [*, if_true, if_false]
end Mine
end

section
open PySem PySem.W PyProof.Rows PySem.Calls
namespace Mine
/-- one sign of _law_counts -/
noncomputable def cunit (w0 : Nat) (u : Int) (c : Nat) : Int := if u < 4 ∨ c ≠ w0 then u.fdiv 2 else u
noncomputable def cstep (w0 mk : Nat) (st : Int × List Int) (c : Nat) : Int × List Int :=
  (cunit w0 st.1 c, st.2 ++ [st.2.getLastD 0 + (if c = mk then cunit w0 st.1 c else - cunit w0 st.1 c)])
noncomputable def countsOf (w : List Nat) (mk : Nat) : List Int := (w.foldl (cstep (w.headD 0) mk) (4, [0])).2

theorem item0 {x : Str} (h : 0 < x.length) : Txt.item x 0 = ⟨#[x.cps.toList.headD 0]⟩ := by
  obtain ⟨⟨l⟩⟩ := x
  cases l with
  | nil => exact absurd h (Nat.lt_irrefl _)
  | cons a r => simp [Txt.item, Txt.charAt, seqIndex?, Str.length]
theorem sign_beq {a b : Nat} : (((⟨#[a]⟩ : Str) == ⟨#[b]⟩) = true) ↔ a = b := by simp
theorem sign_ne {a b : Nat} (h : ((⟨#[a]⟩ : Str) == ⟨#[b]⟩) = false) : ¬ a = b := fun e => by rw [sign_beq.mpr e] at h; cases h
theorem ne_of_item {it : Str} {c w0 : Nat} (hi : it = ⟨#[w0]⟩) (h : ((⟨#[c]⟩ : Str) != it) = true) : c ≠ w0 := by
  subst hi
  intro e
  simp [e] at h
theorem not_or_of {it : Str} {c w0 : Nat} {u : Int} (h1 : ¬ u < 4) (hi : it = ⟨#[w0]⟩) (h : ((⟨#[c]⟩ : Str) != it) = false) : ¬ (u < 4 ∨ c ≠ w0) := by
  subst hi
  rintro (e | e)
  · exact h1 e
  · simp at h; exact e h
theorem c_turn {x : Str} {i c mk : Nat} {u : Int} {zs : List Int} {vs : List Value} {t : Tok} (hc : x.cps[i]? = some c) (hfold : (x.cps.toList.take i).foldl (cstep (x.cps.toList.headD 0) mk) (4, [0]) = (u, zs)) (hzs : IntsAre vs zs) (hzl : zs.length = i + 1)
    {u' z : Int} (hu : u' = cunit (x.cps.toList.headD 0) u c) (hz : z = zs.getD (-1 + (zs.length : Int)).toNat 0 + (if c = mk then u' else -u')) :
    IntsAre (vs ++ [.int z t]) (zs ++ [z]) ∧ (zs ++ [z]).length = i + 1 + 1 ∧ (x.cps.toList.take (i + 1)).foldl (cstep (x.cps.toList.headD 0) mk) (4, [0]) = (u', zs ++ [z]) := by
  refine ⟨hzs.append (.cons _ _ .nil), by simp [hzl], ?_⟩
  have hl : x.cps.toList[i]? = some c := by simpa using hc
  rw [List.take_add_one, hl, List.foldl_append, hfold]
  have e : zs.getD (-1 + (zs.length : Int)).toNat 0 = zs.getLastD 0 := by
    have : (-1 + (zs.length : Int)).toNat = zs.length - 1 := by omega
    rw [this]
    rw [List.getLastD_eq_getLast?, List.getLast?_eq_getElem?, List.getD_eq_getElem?_getD]
  rw [e] at hz
  simp only [Option.toList, List.foldl_cons, List.foldl_nil, cstep, ← hu, ← hz]

local macro_rules | `(tactic| walk_at "eval Name") => `(tactic| (k_here; k_dflt (refine' ld ?k1 ?k2 ?_; (case k1 => k_asm); (case k2 => assumption); k_whole)))

local macro_rules | `(tactic| walk_at "exec For Name Name cons nil") => `(tactic| with_unfolding_all (refine wpAny_For ?_))
local macro_rules | `(tactic| walk_at "pyIter str") => `(tactic| refine hold ?_)

local macro_rules | `(tactic| walk_at "subscriptTail Name UnaryOp") => `(tactic| (refine item_list_ints_neg (News.isList (by assumption) (by k_mem)) (by assumption) (by decide) (by omega) (by decide) ?_; intro _))

local macro_rules | `(tactic| walk_at "call builtin:list.append cons nil") => `(tactic| (k_here; k_dflt (refine' append_K ?k1 ?k2 ?k3 ?_ ?z; (case k1 => k_asm); (case k2 => k_asm); (case k3 => k_upd); (case z => (simp only [List.size_toArray, sizeLine_eq]; omega)); k_whole); intro h' F' N'; (try k_sweep)))

inductive CountJ (gs₀ : Array GenState) (D : Addr) (x : Str) (mk : Nat) (tkw : Tok) (tk2 : Tok) (i : Nat) (m₁ : Str → Option Value) (news₁ : List (Addr × Obj)) (gs : Array GenState) : Prop
  | mk : (gs = gs₀) → ∀ u tu vs n zs, (m₁ (Str.ofString "unit") = some (.int u tu)) → (m₁ (Str.ofString "counts") = some (.ref D)) → (m₁ (Str.ofString "word") = some (.str x tkw)) → (m₁ (Str.ofString "mark") = some (.str ⟨#[mk]⟩ tk2)) → (news₁ = [(D, listOf (vs : List Value).toArray n)]) → (IntsAre vs zs ∧ zs.length = i + 1 ∧ (x.cps.toList.take i).foldl (cstep (x.cps.toList.headD 0) mk) (4, [0]) = (u, zs)) → CountJ gs₀ D x mk tkw tk2 i m₁ news₁ gs
theorem counts_c : ∀ {w : World} {dp u : Nat} {fr : Option (List Env)} {gd : Option (List Code)} {h₀ : Heap} {mg mb : Str → Option Value} {s : Shared} {p : Program} {loose : List Str} {mean : ExcName → Option Value}
    {Q E : Value → Shared → Prop} (X : (hd.heap_1 w.params).In h₀) (T : Top p loose mean mg mb h₀) (hk : ∀ b o, h₀.get? b = some o → s.heap.get? b = some o) (hroom : dp < 600)
    (x : Str) (mk : Nat) (tkw tk2 : Tok) (hx : x.length ≤ 3)
    (h : ∀ a vs n h' tk', s.heap.get? a = none → h'.get? a = some (listOf vs.toArray n) → IntsAre vs (countsOf x.cps.toList mk) → (∀ b o, s.heap.get? b = some o → h'.get? b = some o) → Q (.ref a) { s with heap := h', toks := tk' }),
    wpAny (model PySem.Challenge.rw_re0035_01.row.prog w) ⟨none, dp, fr, gd, u⟩ (call (.ref 168) [.str x tkw, .str ⟨#[mk]⟩ tk2]) Q E s := by
  k_fill
  intro w dp u fr gd h₀ mg mb s p loose mean Q E X T hk hroom x mk tkw tk2 hx h
  refine' enter (as := []) (binds := [(Str.ofString "word", Value.str x tkw), (Str.ofString "mark", Value.str ⟨#[mk]⟩ tk2)]) X T hk ?n ?k6 ?k7 ?k8 ?k9 ?kB ?c2 ?c3 ?c4 ?c5 ?_
  case n => intro a ha; cases ha
  case k6 => k_is
  case k7 => k_is
  case k8 => simp only [recursionLimit]; omega
  case k9 => exact BindsTo.of_eq rfl
  case c5 => decide
  case kB => exact locs rfl
  case c2 => exact rfl
  case c3 => exact rfl
  case c4 => exact rfl
  intro g L h₁ tk₁ hg hL F' hk₁ X' T'
  have N' : News g L h₁ [] := news_nil
  clear X T hk
  try k_fold
  k_steps
  unfold Hold
  rename_i D _ _ tk3 h2 F2 N2
  refine for_str (J := CountJ (s.gens) D x mk tkw tk2) rfl rfl rfl F2 N2 ?_ ?turn ?done
  · exact ⟨rfl, 4, _, [.int 0 _], _, [0], rfl, rfl, rfl, rfl, rfl, .cons _ _ .nil, rfl, rfl⟩
  case turn =>
    rintro i c t I oI m₁ news₁ gs h4 tk4 hc ⟨rfl, u4, tu, vs, n, zs, hu, hcs, hw, hmk, rfl, hzs, hzl, hfold⟩ hlt hne F4 N4
    clear F2 N2
    have hpos : 0 < x.length := by
      have := (Array.getElem?_eq_some_iff.mp hc).1
      show 0 < x.cps.size
      omega
    have hDI : @LT.lt Nat _ D I := hlt _ (.head _)
    have hi3 : i < x.length := (Array.getElem?_eq_some_iff.mp hc).1
    have hvl : vs.length = i + 1 := hzs.length.trans hzl
    k_steps
    all_goals
      have hi0 := item0 hpos
      (with_reducible rename News _ _ _ _ => NN)
      simp only [List.push_toArray] at NN
      refine turn_end' (by assumption) NN ?_ (fun _ hb => nomatch hb) ⟨rfl, _, _, vs ++ [_], n + 1, zs ++ [_], (by first | rfl | assumption), (by first | rfl | assumption), (by first | rfl | assumption), (by first | rfl | assumption), rfl, c_turn hc hfold hzs hzl ?_ ?_⟩
    all_goals try (intro p hp; rw [List.mem_singleton.mp hp]; exact Nat.ne_of_lt hDI)
    all_goals first
      | (rw [cunit, if_pos (.inl (by assumption))])
      | (rw [cunit, if_pos (.inr (ne_of_item hi0 (by assumption)))])
      | (rw [cunit, if_neg (not_or_of (by assumption) hi0 (by assumption))])
      | (rw [if_pos (sign_beq.mp (by assumption))])
      | (rw [if_neg (sign_ne (by assumption))])
  case done =>
    rintro m₁ news₁ gs h4 tk4 ⟨rfl, u4, tu, vs, n, zs, hu, hcs, hw, hmk, rfl, hzs, hzl, hfold⟩ F4 N4
    clear F2 N2
    have hzz : IntsAre vs (countsOf x.cps.toList mk) := by
      have e : x.cps.toList.take x.cps.size = x.cps.toList := List.take_of_length_le (by simp)
      rw [e] at hfold
      unfold countsOf
      rw [hfold]
      exact hzs
    have hD : s.heap.get? D = none := by have := (N4 _ (.head _)).2.2; rw [hg] at this; exact this
    k_steps
    all_goals
      refine h _ _ _ _ _ hD (News.get (by assumption) (.head _)) hzz (fun b o e => Fr.keep (by assumption) b o (by rw [hg]; exact e))
end Mine
end

section
open PySem PySem.W PyProof.Rows PySem.Calls
namespace Mine
/-- an _Accumulator: a list of its own class, with its own dict -/
noncomputable abbrev accObj (d : Addr) (its : Array Value) (n : Nat) : Obj := { cls := .ref 108, dict := some d, data := .seq its n }
noncomputable abbrev accDict (hs : Int) (t1 t2 : Tok) (n : Nat) : Obj := dictOf [⟨hs, .str (Str.ofString "_initial_size") t1, .int 0 t2⟩] n

theorem acc_inst {h : Heap} {a d : Addr} {its : Array Value} {n : Nat} {od : Obj} (ha : h.get? a = some (accObj d its n)) (hd : h.get? d = some od) : InstAt h a (accObj d its n) 108 (some od) := ⟨ha, rfl, rfl, hd⟩
theorem check_method {M : Model} {A : Around} {E : Value → Shared → Prop} {s : Shared} {i owner n : String} {self : Value} {rest : List Value} {kw : List (Str × Value)} {Q : Unit → Shared → Prop}
    (hk : builtinKind i = some .method) (hs : splitId i = some (owner, n)) (hi : Looks M s.heap (isInstance self (.type owner)) true) (ha : argsOk i ⟨self :: rest, kw⟩) (q : Q () s) :
    wpAny M A (checkBuiltinCall i ⟨self :: rest, kw⟩) Q E s := by
  simp only [checkBuiltinCall, hk, hs]
  refine wpAny_bind (hi.here ?_)
  simp only [Bool.not_true, Bool.false_eq_true, if_false]
  cases hsig : Manifest.signature? i with
  | none => exact wpAny_pure q
  | some sig =>
    simp only [argsOk, hsig] at ha
    have h2 : Bind.checkArgs i sig ⟨self :: rest, kw⟩ = pure () := ha
    show wpAny M A (Bind.checkArgs i sig ⟨self :: rest, kw⟩) Q E s
    rw [h2]; exact wpAny_pure q
section
variable {prog : Program} {w : World} {A : Around} {E : Value → Shared → Prop} {s : Shared} {K : Frag} {h₀ : Heap} {L x C : Addr} {m : Str → Option Value} {ox : Obj} {od : Option Obj} {name : Str} {Q : Value → Shared → Prop}
theorem call_method_sub {id owner n : String} {b : Builtin} {self : Value} {rest : List Value} (hp : plainId id = true) (hb : entryFor table id = some b) (hk : builtinKind id = some .method) (hs : splitId id = some (owner, n))
    (hi : Looks (model prog w) s.heap (isInstance self (.type owner)) true) (ha : argsOk id ⟨self :: rest, []⟩)
    (hc : wpAny (model prog w) A.in1 (b ⟨self :: rest, []⟩) (fun fin s' => ∃ v, fin = .done (.ret v) ∧ Q v s') E s) : wpAny (model prog w) A (call (.builtin id) (self :: rest)) Q E s := by
  refine wpAny_call (codeAny_call_builtin hp hb (check_method hk hs hi ha (wpAny_mono hc (fun fin s' h' => ?_) fun _ _ h' => h')))
  obtain ⟨v, rfl, hv⟩ := h'; exact hv
theorem call_slot_sub {id owner n : String} {b : Builtin} {self : Value} {rest : List Value} (hp : plainId id = true) (hb : entryFor table id = some b) (hk : builtinKind id = some .slot) (hs : splitId id = some (owner, n))
    (hi : Looks (model prog w) s.heap (isInstance self (.type owner)) true) (ha : argsOk id ⟨self :: rest, []⟩)
    (hc : wpAny (model prog w) A.in1 (b ⟨self :: rest, []⟩) (fun fin s' => ∃ v, fin = .done (.ret v) ∧ Q v s') E s) : wpAny (model prog w) A (call (.builtin id) (self :: rest)) Q E s := by
  refine wpAny_call (codeAny_call_builtin hp hb (check_slot hk hs hi ha (wpAny_mono hc (fun fin s' h' => ?_) fun _ _ h' => h')))
  obtain ⟨v, rfl, hv⟩ := h'; exact hv
/-- a method of a built-in base, met through an object of an own class -/
theorem canon_list_ga : (Manifest.canonical "list.__getattribute__" != "object.__getattribute__") = false := by decide +kernel
theorem method_base {pl : Sem Bool} {id : String} {Q : Value × List Value → Shared → Prop} (X : K.In s.heap) (I : InstAt s.heap x ox C od) (hga : findIn K (.ref C) "__getattribute__" = some (some (.builtin "list.__getattribute__"))) (hk : findIn K (.ref C) "__getattr__" = some none)
    (hf : findIn K (.ref C) name = some (some (.builtin id))) (ht : typeOf (.builtin id) = pure (.type "method_descriptor")) (hs : shadowIn od name = some false) (h : Q (.builtin id, [.ref x]) s) :
    wpAny (model prog w) A (getMethod (.ref x) name pl) Q E s := by
  have hcan := canon_list_ga
  unfold getMethod specialOf
  refine wpAny_bind (wpAny_bind (I.type.here ((looks_findIn X hga).here ?_)))
  dsimp only
  rw [hcan, if_neg (by decide)]
  refine wpAny_bind (wpAny_bind (I.type.here ((looks_findIn X hk).here ?_)))
  refine wpAny_bind (wpAny_bind (I.type.here ((looks_findIn X hf).here (wpAny_bind ((Looks.of_pure ht).here ?_)))))
  rw [if_neg (by decide +kernel)]
  refine wpAny_bind (wpAny_loadPart I.at_ ?_)
  have hd := I.dict
  cases e : ox.dict with
  | none => exact wpAny_bind (wpAny_rule (wpAny_pure h))
  | some dx =>
    cases od with
    | none => rw [e] at hd; exact hd.elim
    | some o =>
      rw [e] at hd
      obtain ⟨r, a, b⟩ := Option.map_eq_some_iff.mp hs
      refine wpAny_bind (wpAny_bind (wpAny_loadPart hd ?_))
      rw [nsLook_of a]
      refine wpAny_pure ?_
      rw [b]
      exact wpAny_bind (wpAny_rule (wpAny_pure h))
end
theorem kind_append : builtinKind "list.append" = some .method := by decide +kernel
theorem split_append : splitId "list.append" = some ("list", "append") := by decide +kernel
theorem plain_append : plainId "list.append" = true := by decide +kernel
theorem type_append : typeOf (.builtin "list.append") = pure (.type "method_descriptor") := by show builtinType _ = _; rw [builtinType_eq_fast]; kernel_rfl
section
variable {prog : Program} {w : World} {A : Around} {E : Value → Shared → Prop} {s : Shared} {K : Frag} {h₀ : Heap} {L a d : Addr} {m : Str → Option Value} {its : Array Value} {n : Nat} {Q : Value → Shared → Prop} {news : List (Addr × Obj)}
/-- isinstance(an accumulator, list) -/
theorem acc_isList (X : K.In s.heap) (hm : mroIn K 108 (.type "list") = some true) (ha : s.heap.get? a = some (accObj d its n)) : Looks (model prog w) s.heap (isInstance (.ref a) (.type "list")) true :=
  ((Looks.ld ha).andThen .now).andThen (looks_mroIn X hm)
theorem acc_append {x : Value} {news' : List (Addr × Obj)} (F : Fr h₀ L s.heap m) (X : K.In h₀) (hm : mroIn K 108 (.type "list") = some true) (N : News h₀ L s.heap news) (U : Upd a (accObj d its n) (accObj d (its.push x) (n + 1)) news news') (hz : its.size ≤ 1000)
    (h : ∀ h', Fr h₀ L h' m → News h₀ L h' news' → Q .none { s with heap := h' }) :
    wpAny (model prog w) A (call (.builtin "list.append") [.ref a, x]) Q E s := by
  obtain ⟨pre, post, rfl, rfl, p1, p2⟩ := U.split
  have z := N (a, accObj d its n) (List.mem_append.mpr (.inr (.head _)))
  have ho := z.1
  refine call_method_sub plain_append PySem.entry_list_append kind_append split_append (acc_isList (X.keeps F.keep) hm ho) (args_list_append _ _) ?_
  show wpAny _ _ (updateSeq a (·.push x) >>= fun _ => ret .none) _ _ s
  refine wpAny_bind ?_
  refine wpAny_updateSeq ho rfl (wpAny_pure ⟨.none, rfl, h _ ?_ ?_⟩) (by rw [sizeLine_eq]; omega)
  · exact F.change (Heap.SameBut.update ..) z.2.1 z.2.2
  · refine news_set N p1 p2 (Heap.SameBut.update ..) ?_
    rw [Heap.get?_update_self _ ho (by simp [Obj.mapSeq]; rfl)]
    simp [Obj.mapSeq]
end
end Mine
end

section
open PySem PySem.W PyProof.Rows PySem.Calls
namespace Mine
local macro_rules | `(tactic| walk_at "getMethod ref") => `(tactic| (k_here; k_dflt (refine' method_base (od := some _) ?X (acc_inst ?h1 ?h2) ?g1 ?g2 ?g3 type_append ?g4 ?_; (case X => k_in); (case h1 => exact News.get (by assumption) (by k_mem)); (case h2 => exact Fr.keep (by assumption) _ _ (by assumption)); (case g1 => k_is); (case g2 => k_is); (case g3 => k_is); (case g4 => rfl); k_whole)))
local macro_rules | `(tactic| walk_at "call builtin:list.append cons nil") => `(tactic| (k_here; k_dflt (refine' acc_append ?F ?X ?hm ?N ?U ?hz ?_; (case F => k_asm); (case X => k_asm); (case N => assumption); (case hm => k_is); (case U => k_upd); (case hz => assumption); k_whole); intro h' F' N'))
theorem push_c : ∀ {w : World} {dp u : Nat} {fr : Option (List Env)} {gd : Option (List Code)} {h₀ : Heap} {mg mb : Str → Option Value} {s : Shared} {p : Program} {loose : List Str} {mean : ExcName → Option Value}
    {Q E : Value → Shared → Prop} (X : (hd.heap_1 w.params).In h₀) (T : Top p loose mean mg mb h₀) (hk : ∀ b o, h₀.get? b = some o → s.heap.get? b = some o) (hroom : dp < 600)
    (a d : Addr) (its : Array Value) (n n2 : Nat) (hs : Int) (t1 t2 : Tok) (f q : Str) (tf tq : Tok) (ha : s.heap.get? a = some (accObj d its n)) (hd : s.heap.get? d = some (accDict hs t1 t2 n2)) (hna : h₀.get? a = none) (hz : its.size ≤ 1000)
    (h : ∀ t h' tk', s.heap.get? t = none → h'.get? t = some { cls := .type "tuple", data := .seq #[.str f tf, .str q tq] } → h'.get? a = some (accObj d (its.push (.ref t)) (n + 1)) →
      (∀ b o, b ≠ a → s.heap.get? b = some o → h'.get? b = some o) → Q .none { s with heap := h', toks := tk' }),
    wpAny (model PySem.Challenge.rw_re0035_01.row.prog w) ⟨none, dp, fr, gd, u⟩ (call (.ref 52) [.ref a, .str f tf, .str q tq]) Q E s := by
  k_fill
  intro w dp u fr gd h₀ mg mb s p loose mean Q E X T hk hroom a d its n n2 hs t1 t2 f q tf tq ha hd hna hz h
  refine' enter (as := [a]) (binds := [(Str.ofString "self", .ref a), (Str.ofString "fws", Value.str f tf), (Str.ofString "string", Value.str q tq)]) X T hk ?n ?k6 ?k7 ?k8 ?k9 ?kB ?c2 ?c3 ?c4 ?c5 ?_
  case n => intro b hb; rw [List.mem_singleton.mp hb]; exact hna
  case k6 => k_is
  case k7 => k_is
  case k8 => simp only [recursionLimit]; omega
  case k9 => exact BindsTo.of_eq rfl
  case c5 => decide
  case kB => exact locs rfl
  case c2 => exact rfl
  case c3 => exact rfl
  case c4 => exact rfl
  intro g L h₁ tk₁ hg hL F' hk₁ X' T'
  have hda : d ≠ a := fun e => by rw [e, ha] at hd; cases hd
  have hdg : g.get? d = some (accDict hs t1 t2 n2) := hg ▸ get_hide hd (by simp [hda])
  have N' : News g L h₁ [(a, accObj d its n)] := fun p hp => by
    rw [List.mem_singleton.mp hp]
    refine ⟨hk₁ _ _ ha, Nat.ne_of_lt (hL ▸ Heap.lt_size ha), hg ▸ hideAll_none _ (.head _)⟩
  clear X T hk hk₁ hd ha
  k_steps
  all_goals
    (with_reducible rename News _ _ _ _ => NN)
    (with_reducible rename Fr _ _ _ _ => FF)
    refine h _ _ _ ?_ (NN _ (.head _)).1 (NN _ (.tail _ (.head _))).1 (fun b o hb e => FF.keep b o (hg ▸ get_hide e (by simp [hb])))
    have q := (NN _ (.head _)).2.2
    rw [hg] at q
    refine none_of_hide q ?_
    (with_reducible rename @LT.lt Nat _ _ _ => hl)
    exact fun e => Nat.ne_of_gt hl (List.mem_singleton.mp e)
end Mine
end

section
open PySem PySem.W PyProof.Rows PySem.Calls
namespace Mine
theorem slot_wd_get : Slot "wrapper_descriptor" "__get__" "wrapper_descriptor.__get__" := .of (owner := "wrapper_descriptor") (n := "__get__") (by rw [typeLookup_type, builtinLookup_eq_fast]; kernel_rfl) (by decide +kernel) (by decide +kernel) (by decide +kernel)
  (by first | exact .inl (by decide +kernel) | exact .inr (by decide +kernel)) (by rw [isSubtype_type]; kernel_rfl)
theorem entry_wd_get : entryFor table "wrapper_descriptor.__get__" = some Builtin.«wrapper_descriptor.__get__» := entryFor_of_tree (by kernel_rfl)
theorem args_wd_get (a b c : Value) : argsOk "wrapper_descriptor.__get__" ⟨[a, b, c], []⟩ := by unfold argsOk; kernel_rfl
theorem type_linit : typeOf (.builtin "list.__init__") = pure (.type "wrapper_descriptor") := by show builtinType _ = _; rw [builtinType_eq_fast]; kernel_rfl
theorem type_llen : typeOf (.builtin "list.__len__") = pure (.type "wrapper_descriptor") := by show builtinType _ = _; rw [builtinType_eq_fast]; kernel_rfl

/-- the object that binds a slot of a built-in base to an object -/
noncomputable abbrev wrapObj (id : String) (x : Addr) : Obj := { cls := .type "method-wrapper", data := .fields #[.builtin id, .ref x] }
section
variable {prog : Program} {w : World} {A : Around} {E : Value → Shared → Prop} {h : Heap} {g : Array GenState} {d : Drawn} {t : Nat} {os : OsState}
theorem wd_get {id : String} {x C : Addr} {Q : Fin → Shared → Prop} (ho : ".".intercalate (id.cutAt '.').dropLast = "list") (hx : Looks (model prog w) h (isInstance (.ref x) (.type "list")) true)
    (hq : Q (.done (.ret (.ref h.objs.size))) ⟨h.push (wrapObj id x), g, d, t, os⟩) :
    wpAny (model prog w) A (Builtin.«wrapper_descriptor.__get__» ⟨[.builtin id, .ref x, .ref C], []⟩) Q E ⟨h, g, d, t, os⟩ := by
  unfold Builtin.«wrapper_descriptor.__get__»
  refine wpAny_bind ?_
  with_unfolding_all refine wpAny_pure ?_
  with_unfolding_all refine wpAny_bind ?_
  with_unfolding_all refine wpAny_bind ?_
  with_unfolding_all refine wpAny_pure ?_
  with_unfolding_all refine wpAny_bind ?_
  rw [ho]
  refine hx.at ?_
  rw [if_neg (by decide)]
  refine wpAny_pure (wpAny_bind (wpAny_newObj_type ?_ (by size_fits)))
  exact wpAny_pure hq

theorem super_ga_b {so D x C : Addr} {id : String} {l₀ l : List Value} {K : Frag} {name : Str} {tk : Tok} {Q : Fin → Shared → Prop}
    (hso : h.get? so = some { cls := .type "super", dict := none, data := .fields #[.ref D, .ref x, .ref C], slots := #[] }) (hno : Looks (model prog w) h (opaqueClassAbove (.ref C)) none)
    (hC : Looks (model prog w) h (mroOf (.ref C)) l₀) (hl : (l₀.dropWhile (· != .ref D)).drop 1 = l) (X : K.In h)
    (hf : alongIn K name l = some (some (.builtin id))) (hty : typeOf (.builtin id) = pure (.type "wrapper_descriptor")) (ho : ".".intercalate (id.cutAt '.').dropLast = "list") (hx : Looks (model prog w) h (isInstance (.ref x) (.type "list")) true)
    (hxC : x ≠ C) (hn : (name == ("__class__" : Str)) = false)
    (hq : Q (.done (.ret (.ref h.objs.size))) ⟨h.push (wrapObj id x), g, d, t, os⟩) :
    wpAny (model prog w) A (Builtin.«super.__getattribute__» ⟨[.ref so, .str name tk], []⟩) Q E ⟨h, g, d, t, os⟩ := by
  have hlk := slot_wd_get.lookup
  have hne : (Value.ref x == Value.ref C) = false := by simp [hxC]
  have hTf : (⟨h, g, d, t, os⟩ : Shared).TypeIs (.builtin id) "wrapper_descriptor" := hty
  have hdt : ({ cls := .type "super", dict := none, data := .fields #[.ref D, .ref x, .ref C], slots := #[] } : Obj).data = .fields #[.ref D, .ref x, .ref C] := rfl
  have f0 : (#[.ref D, .ref x, .ref C] : Array Value)[0]? = some (.ref D) := rfl
  have f1 : (#[.ref D, .ref x, .ref C] : Array Value)[1]? = some (.ref x) := rfl
  have f2 : (#[.ref D, .ref x, .ref C] : Array Value)[2]? = some (.ref C) := rfl
  unfold Builtin.«super.__getattribute__»
  repeat (first
    | (with_reducible refine wpAny_field hso hdt f0 ?_) | (with_reducible refine wpAny_field hso hdt f1 ?_) | (with_reducible refine wpAny_field hso hdt f2 ?_)
    | (with_reducible refine ks_wpAny_notOpaque hno ?_)
    | (with_reducible refine Looks.at hC ?_; rw [hl])
    | (refine ks_forIn_along X (fun _ _ => rfl) rfl ?_ hf)
    | (with_reducible refine wpAny_typeOf hTf ?_)
    | (with_reducible refine wpAny_call_entry slot_wd_get hTf entry_wd_get ?_ (args_wd_get _ _ _))
    | (with_reducible refine wd_get ho hx ?_)
    | (with_reducible refine ⟨_, rfl, ?_⟩)
    | (simp only [hn, hne, Bool.or_false, Bool.false_eq_true, if_false])
    | wp_step
    | dsimp only)
  all_goals exact hq

theorem getMethod_super_b {so D x C : Addr} {id : String} {l₀ l : List Value} {K : Frag} {name : Str} {pl : Sem Bool} {Q : Value × List Value → Shared → Prop}
    (hso : h.get? so = some { cls := .type "super", dict := none, data := .fields #[.ref D, .ref x, .ref C], slots := #[] }) (hno : Looks (model prog w) h (opaqueClassAbove (.ref C)) none)
    (hC : Looks (model prog w) h (mroOf (.ref C)) l₀) (hl : (l₀.dropWhile (· != .ref D)).drop 1 = l) (X : K.In h)
    (hf : alongIn K name l = some (some (.builtin id))) (hty : typeOf (.builtin id) = pure (.type "wrapper_descriptor")) (ho : ".".intercalate (id.cutAt '.').dropLast = "list") (hx : Looks (model prog w) h (isInstance (.ref x) (.type "list")) true)
    (hxC : x ≠ C) (hn : (name == ("__class__" : Str)) = false)
    (hq : Q (.ref h.objs.size, []) ⟨h.push (wrapObj id x), g, d, t + 1, os⟩) :
    wpAny (model prog w) A (getMethod (.ref so) name pl) Q E ⟨h, g, d, t, os⟩ := by
  have hlk := F.ks_slot_super_ga.lookup
  have hcan := F.ks_canon_super_ga
  have hT : ∀ t', (⟨h, g, d, t', os⟩ : Shared).TypeIs (.ref so) "super" := fun _ => ⟨_, hso, rfl⟩
  unfold getMethod
  refine wpAny_bind (wpAny_specialOf (hT _) hlk ?_)
  show wpAny _ _ (if (Manifest.canonical "super.__getattribute__" != "object.__getattribute__") = true then _ else _) _ _ _
  rw [if_pos hcan]
  unfold getAttr getAttrBy
  refine wpAny_bind (wpAny_bind (wpAny_mkText (wpAny_holding (wpAny_bind (wpAny_typeOf (hT _) (wpAny_bind (wpAny_of_eq hlk ?_)))))))
  show wpAny _ _ (getAttrByItsOwn (.ref so) (.str name t) (.type "super") (.builtin "super.__getattribute__") true false) _ _ _
  unfold getAttrByItsOwn hookBefore callGetattribute boundAndCalled
  refine wpAny_bind (wpAny_of_eq (show (if onTheHeap (.type "super") then typeLookup (.type "super") "__getattr__" else pure none) = pure none from rfl) ?_)
  refine wpAny_bind (wpAny_attempt (wpAny_holding ?_))
  show wpAny _ _ (bindSpecial (.builtin "super.__getattribute__") (.ref so) >>= _) _ _ _
  refine wpAny_bind (wpAny_of_eq (F.ks_slot_super_ga.bind _) ?_)
  refine wpAny_mono (Q := fun v s' => v = .ref h.objs.size ∧ s' = ⟨h.push (wrapObj id x), g, d, t + 1, os⟩) (E := fun _ _ => False)
    (wpAny_call_entry F.ks_slot_super_ga (hT _) F.ks_entry_super_ga (super_ga_b hso hno hC hl X hf hty ho hx hxC hn ⟨_, rfl, rfl, rfl⟩) (F.ks_gaArgs_super _ _)) (fun v s' hv => ?_) fun _ _ z => z.elim
  obtain ⟨rfl, rfl⟩ := hv
  exact wpAny_pure (wpAny_pure hq)
end
end Mine
end

section
open PySem PySem.W PyProof.Rows PySem.Calls
namespace Mine
/-- enter, for a def that closes over __class__ -/
theorem enterSC {prog : Program} {w : World} {A : Around} {E : Value → Shared → Prop} {s : Shared} {K : Frag} {h₀ : Heap} {mg mb : Str → Option Value} {p : Program} {loose : List Str} {mean : ExcName → Option Value} {Q : Value → Shared → Prop} {as : List Addr}
    {name qual : Str} {params : Arguments} {body : List Stmt} {scope : Scope} {dV kV doc pm cdv ct oc : Value} {an od : Option Addr} {osl : Array (Option Value)} {f cc : Addr} {args : List Value} {binds : List (Str × Value)}
    (X : K.In h₀) (T : Top p loose mean mg mb h₀) (hk : ∀ b o, h₀.get? b = some o → s.heap.get? b = some o) (hna : ∀ a ∈ as, h₀.get? a = none)
    (ho : K.lookup f = some ⟨oc, od, .func (ksFn name qual params body scope dV kV doc pm an cdv ct cc), osl⟩) (hcd : codeIn K cdv qual = true) (hroom : A.depth < recursionLimit)
    (hbind : BindsTo s (ksFn name qual params body scope dV kV doc pm an cdv ct cc) ⟨args, []⟩ binds) (hloc : ∀ y ∈ binds, scope.names.lookup y.1 = some .local)
    (hco : scope.isCoroutine = false) (hgen : scope.isGenerator = false) (hkd : scope.kind = .function) (hcell : ∀ x ∈ scope.names, x.2 ≠ .cell)
    (h : ∀ g L h₁ tk, g = hideAll s.heap as → L = s.heap.objs.size → Fr g L h₁ (fun y => binds.reverse.lookup y) → (∀ b o, s.heap.get? b = some o → h₁.get? b = some o) → K.In g → Top p loose mean mg mb g →
      _root_.PySem.wpAt (model prog w) (A.deeper (ksEnv qual scope L f cdv cc)) (.func body (ksEnv qual scope L f cdv cc)) (execs body (ksEnv qual scope L f cdv cc))
        (fun fl s' => Q (match fl with | .ret v => v | _ => .none) s') (fun _ _ => False)
        { s with heap := h₁, toks := tk }) : codeAny (model prog w) A (.call (.ref f) ⟨args, []⟩) (fun r s' => match r with | .ok (.ret v) => Q v s' | .ok _ => False | .error e => E e s') s := by
  have st : ∀ b o, h₀.get? b = some o → (hideAll s.heap as).get? b = some o := fun b o e => hideAll_get _ (hk b o e) fun q => by
    rw [hna b q] at e; cases e
  refine ks_codeAny_call_defAt (fd := ksFn name qual params body scope dV kV doc pm an cdv ct cc) (body := body) (binds := binds) hroom ((X.keeps hk) _ _ ho) rfl (T.nolimit.keeps hk) (codeRec_of (X.keeps hk) hcd) rfl hbind hcell hloc (fun h₁ hns hk₁ => ?_) hco hgen hkd
  refine ks_wpAt_mono (h _ _ h₁ _ rfl rfl ⟨hns, fun b o e => hk₁ b o (of_hideAll _ e), Nat.le_of_eq (hideAll_size _ _)⟩ hk₁ (X.keeps st) (T.keeps st)) (fun fl s' hl => ?_) fun _ _ y => y.elim
  cases fl <;> exact hl

/-- enter, for a def that closes over __class__ -/
theorem enterS {prog : Program} {w : World} {A : Around} {E : Value → Shared → Prop} {s : Shared} {K : Frag} {h₀ : Heap} {mg mb : Str → Option Value} {p : Program} {loose : List Str} {mean : ExcName → Option Value} {Q : Value → Shared → Prop} {as : List Addr}
    {name qual : Str} {params : Arguments} {body : List Stmt} {scope : Scope} {dV kV doc pm cdv ct oc : Value} {an od : Option Addr} {osl : Array (Option Value)} {f cc : Addr} {args : List Value} {binds : List (Str × Value)}
    (X : K.In h₀) (T : Top p loose mean mg mb h₀) (hk : ∀ b o, h₀.get? b = some o → s.heap.get? b = some o) (hna : ∀ a ∈ as, h₀.get? a = none)
    (ho : K.lookup f = some ⟨oc, od, .func (ksFn name qual params body scope dV kV doc pm an cdv ct cc), osl⟩) (hcd : codeIn K cdv qual = true) (hroom : A.depth < recursionLimit)
    (hbind : BindsTo s (ksFn name qual params body scope dV kV doc pm an cdv ct cc) ⟨args, []⟩ binds) (hloc : ∀ y ∈ binds, scope.names.lookup y.1 = some .local)
    (hco : scope.isCoroutine = false) (hgen : scope.isGenerator = false) (hkd : scope.kind = .function) (hcell : ∀ x ∈ scope.names, x.2 ≠ .cell)
    (h : ∀ g L h₁ tk, g = hideAll s.heap as → L = s.heap.objs.size → Fr g L h₁ (fun y => binds.reverse.lookup y) → (∀ b o, s.heap.get? b = some o → h₁.get? b = some o) → K.In g → Top p loose mean mg mb g →
      _root_.PySem.wpAt (model prog w) (A.deeper (ksEnv qual scope L f cdv cc)) (.func body (ksEnv qual scope L f cdv cc)) (execs body (ksEnv qual scope L f cdv cc))
        (fun fl s' => Q (match fl with | .ret v => v | _ => .none) s') (fun _ _ => False)
        { s with heap := h₁, toks := tk }) : wpAny (model prog w) A (call (.ref f) args) Q E s :=
  wpAny_call (enterSC X T hk hna ho hcd hroom hbind hloc hco hgen hkd hcell h)

theorem keeps_wrap {M : Model} {q x : Addr} {id : String} (h : Heap) (hq : h.get? q = some (wrapObj id x)) : ∃ k, (k = Keeper.frame ∨ k = Keeper.machine ∨ k = Keeper.boundFrame) ∧ Looks M h (keeperOf (.ref q)) k :=
  ⟨.machine, .inr (.inl rfl), (Looks.ld (part := none) hq).andThen .now⟩
section
variable {prog : Program} {w : World} {A : Around} {E : Value → Shared → Prop} {s : Shared} {Q : Value → Shared → Prop}
theorem callWith_wrap {q x : Addr} {id : String} {pos : Pos} {env : Env} {first : List Value} (hq : s.heap.get? q = some (wrapObj id x)) (h : wpAny (model prog w) A (call (.ref q) (first ++ [])) Q E s) :
    wpAny (model prog w) A (callWith pos (.ref q) first (backTo pos (starEach [] env)) []) Q E s :=
  callWith_of rfl (keeps_wrap (M := model prog w)) (evalArgs_nil3 ⟨hq, h⟩)
theorem call_wrap {q x : Addr} {id : String} {b : Builtin} (hq : s.heap.get? q = some (wrapObj id x)) (hp : plainId id = true) (hb : entryFor table id = some b) (hc : checkBoundCall id ⟨[.ref x], []⟩ = pure ())
    (h : wpAny (model prog w) A.in1 (b ⟨[.ref x], []⟩) (fun fin s' => ∃ v, fin = .done (.ret v) ∧ Q v s') E s) : wpAny (model prog w) A (call (.ref q) []) Q E s := by
  refine wpAny_call (codeAny_of_tree ?_)
  show wpAny _ A.in1 (callAny (.ref q) ⟨[], []⟩) _ _ s
  unfold callAny
  refine wpAny_bind (wpAny_load hq ?_)
  show wpAny _ A.in1 (do checkBoundCall id ⟨[.ref x], []⟩; again (.builtin id ⟨[.ref x], []⟩)) _ _ s
  rw [hc]
  refine wpAny_bind (wpAny_pure (wpAny_pure ⟨plainId_quiet hp _, codeAny_builtin hb ?_⟩))
  rw [Around.under_plainId hp]
  refine wpAny_mono h (fun fin s' h' => ?_) fun _ _ e => e
  obtain ⟨v, rfl, hv⟩ := h'
  exact hv
end
theorem bound_len (x : Addr) : checkBoundCall "list.__len__" ⟨[.ref x], []⟩ = pure () := by kernel_rfl
theorem plain_llen : plainId "list.__len__" = true := by decide +kernel
theorem entry_llen : entryFor table "list.__len__" = some Builtin.«list.__len__» := entryFor_of_tree (by kernel_rfl)
theorem bound_init (x : Addr) : checkBoundCall "list.__init__" ⟨[.ref x], []⟩ = pure () := by kernel_rfl
theorem plain_linit : plainId "list.__init__" = true := by decide +kernel
theorem entry_linit : entryFor table "list.__init__" = some Builtin.«list.__init__» := entryFor_of_tree (by kernel_rfl)

theorem list_len_run {M : Model} {A : Around} {E : Value → Shared → Prop} {s : Shared} {a d : Addr} {its : Array Value} {n : Nat} {Q : Fin → Shared → Prop} (ha : s.heap.get? a = some (accObj d its n))
    (h : Q (.done (.ret (.int its.size s.toks))) { s with toks := s.toks + 1 }) : wpAny M A (Builtin.«list.__len__» ⟨[.ref a], []⟩) Q E s := by
  show wpAny M A ((loadPart a (some keysPart) >>= fun o => match o.data with | .seq xs _ => pure xs.size | _ => unsupported "internal:not-a-sequence") >>= fun k => retInt k) Q E s
  refine wpAny_bind (wpAny_bind (wpAny_loadPart ha (wpAny_pure ?_)))
  exact wpAny_bind (wpAny_mkInt (wpAny_pure h))

theorem acc_ne {h : Heap} {a d : Addr} {its : Array Value} {n n2 : Nat} {hs : Int} {t1 t2 : Tok} (ha : h.get? a = some (accObj d its n)) (hd : h.get? d = some (accDict hs t1 t2 n2)) : d ≠ a := fun e => by rw [e, ha] at hd; cases hd
theorem acc_news {g h h₁ : Heap} {L a d : Addr} {its : Array Value} {n n2 : Nat} {hs : Int} {t1 t2 : Tok} (hg : g = hideAll h [a, d]) (hL : L = h.objs.size) (hk : ∀ b o, h.get? b = some o → h₁.get? b = some o) (ha : h.get? a = some (accObj d its n)) (hd : h.get? d = some (accDict hs t1 t2 n2)) :
    News g L h₁ [(a, accObj d its n), (d, accDict hs t1 t2 n2)] := fun p hp => by
  rcases List.mem_cons.mp hp with rfl | hp
  · exact ⟨hk _ _ ha, Nat.ne_of_lt (hL ▸ Heap.lt_size ha), hg ▸ hideAll_none _ (.head _)⟩
  · rw [List.mem_singleton.mp hp]
    exact ⟨hk _ _ hd, Nat.ne_of_lt (hL ▸ Heap.lt_size hd), hg ▸ hideAll_none _ (.tail _ (.head _))⟩

theorem acc_keep {g h h' : Heap} {L a d : Addr} {m : Str → Option Value} {o1 o2 : Obj} (hg : g = hideAll h [a, d]) (F : Fr g L h' m) (ha : h.get? a = some o1) (hd : h.get? d = some o2) (ha' : h'.get? a = some o1) (hd' : h'.get? d = some o2) :
    ∀ b o, h.get? b = some o → h'.get? b = some o := fun b o e => by
  by_cases ea : b = a
  · subst ea; rw [ha] at e; cases e; exact ha'
  · by_cases ed : b = d
    · subst ed; rw [hd] at e; cases e; exact hd'
    · exact F.keep b o (hg ▸ get_hide e (by simp [ea, ed]))
local macro_rules | `(tactic| k_inst) => `(tactic| exact acc_inst (News.get (by k_asm) (by k_mem)) (News.get (by k_asm) (by k_mem)))
section
variable {prog : Program} {w : World} {A : Around} {E : Value → Shared → Prop} {s : Shared} {h₀ : Heap} {L x d so : Addr} {m : Str → Option Value} {news : List (Addr × Obj)} {K : Frag} {its : Array Value} {n : Nat} {id : String} {name : Str}
theorem super_method_b {pl : Sem Bool} {Q : Value × List Value → Shared → Prop} (F : Fr h₀ L s.heap m) (X₀ : K.In h₀) (N : News h₀ L s.heap news) (hso : (so, ks_superObj 108 x 108) ∈ news) (hx : (x, accObj d its n) ∈ news) (ho : nsIn K cStatics "thirdparty.any" = some none)
    (hm : ks_superIn K 108 108 name = some (some (.builtin id))) (hmro : mroIn K 108 (.type "list") = some true) (ht : typeOf (.builtin id) = pure (.type "wrapper_descriptor")) (how : ".".intercalate (id.cutAt '.').dropLast = "list") (hn : (name == ("__class__" : Str)) = false)
    (h : ∀ q h', Fr h₀ L h' m → News h₀ L h' ((q, wrapObj id x) :: news) → (∀ p ∈ news, p.1 < q) → Q (.ref q, []) { s with heap := h', toks := s.toks + 1 }) : wpAny (model prog w) A (getMethod (.ref so) name pl) Q E s := by
  have X : K.In s.heap := X₀.keeps F.keep
  have hxo := (N _ hx).1
  have isl := acc_isList (prog := prog) (w := w) X hmro hxo
  obtain ⟨hh, g, dr, t, os⟩ := s
  cases hc : clsIn K 108 with
  | none => unfold ks_superIn at hm; rw [hc] at hm; cases hm
  | some cd =>
    unfold ks_superIn at hm
    rw [hc] at hm
    have hne : x ≠ 108 := by
      rintro rfl
      unfold clsIn at hc
      split at hc
      · rename_i c d cd' sl ho
        have e := X _ _ ho
        rw [hxo] at e
        cases e
      · cases hc
    refine getMethod_super_b (N _ hso).1 (looks_opaque X ho) (l₀ := cd.mro) ?_ rfl X hm ht how isl hne hn ?_
    · exact fun A Q E s k q => wpAny_bind ((looks_clsIn X hc) A _ E s k (wpAny_pure q))
    · obtain ⟨F', N', l'⟩ := ks_newsPush (s := ⟨hh, g, dr, t, os⟩) (o := wrapObj id x) F N rfl (Heap.get?_push_at rfl rfl) (fun b o e => Heap.get?_push_of_some _ e)
      exact h _ _ F' N' l'
end
theorem own_llen : ".".intercalate ("list.__len__".cutAt '.').dropLast = "list" := by decide +kernel
theorem own_linit : ".".intercalate ("list.__init__".cutAt '.').dropLast = "list" := by decide +kernel
local macro_rules | `(tactic| walk_at "getMethod ref") => `(tactic| (k_here; k_dflt (refine' super_method_b ?k1 ?k2 ?k3 ?k4 ?k5 ?k6 ?k7 ?k8 type_llen own_llen ?k9 ?_; (case k1 => k_asm); (case k2 => k_asm); (case k3 => k_asm); (case k4 => k_mem); (case k5 => k_mem); (case k6 => k_is); (case k7 => ks_is); (case k8 => k_is); (case k9 => decide); intro q' h' F' N' l1; (try k_lt l1))))
local macro_rules | `(tactic| walk_at "callWith ref") => `(tactic| (refine callWith_wrap (News.get (by k_asm) (by k_mem)) ?_))
local macro_rules | `(tactic| walk_at "call ref") => `(tactic| (refine call_wrap (News.get (by k_asm) (by k_mem)) plain_llen entry_llen (bound_len _) (list_len_run (News.get (by k_asm) (by k_mem)) ⟨_, rfl, ?_⟩)))
theorem part_count_c : ∀ {w : World} {dp u : Nat} {fr : Option (List Env)} {gd : Option (List Code)} {h₀ : Heap} {mg mb : Str → Option Value} {s : Shared} {p : Program} {loose : List Str} {mean : ExcName → Option Value}
    {Q E : Value → Shared → Prop} (X : (hd.heap_1 w.params).In h₀) (T : Top p loose mean mg mb h₀) (hk : ∀ b o, h₀.get? b = some o → s.heap.get? b = some o) (hroom : dp < 600)
    (a d : Addr) (its : Array Value) (n n2 : Nat) (hs : Int) (t1 t2 : Tok) (ha : s.heap.get? a = some (accObj d its n)) (hd : s.heap.get? d = some (accDict hs t1 t2 n2)) (hna : h₀.get? a = none) (hnd : h₀.get? d = none) (hz : its.size ≤ 1000)
    (h : ∀ t h' tk', (∀ b o, s.heap.get? b = some o → h'.get? b = some o) → Q (.int its.size t) { s with heap := h', toks := tk' }),
    wpAny (model PySem.Challenge.rw_re0035_01.row.prog w) ⟨none, dp, fr, gd, u⟩ (call (.ref 105) [.ref a]) Q E s := by
  k_fill
  intro w dp u fr gd h₀ mg mb s p loose mean Q E X T hk hroom a d its n n2 hs t1 t2 ha hd hna hnd hz h
  refine' enterS (as := [a, d]) (binds := [(Str.ofString "self", .ref a)]) X T hk ?n ?k6 ?k7 ?k8 ?k9 ?kB ?c2 ?c3 ?c4 ?c5 ?_
  case n => intro b hb; rcases List.mem_cons.mp hb with rfl | hb; exact hna; rw [List.mem_singleton.mp hb]; exact hnd
  case k6 => k_is
  case k7 => k_is
  case k8 => simp only [recursionLimit]; omega
  case k9 => exact BindsTo.of_eq rfl
  case c5 => decide
  case kB => exact locs rfl
  case c2 => exact rfl
  case c3 => exact rfl
  case c4 => exact rfl
  intro g L h₁ tk₁ hg hL F' hk₁ X' T'
  have N' := acc_news hg hL hk₁ ha hd
  clear X T hk hk₁
  k_steps
  all_goals
    (with_reducible rename News _ _ _ _ => NN)
    (with_reducible rename Fr _ _ _ _ => FF)
    exact h _ _ _ (acc_keep hg FF ha hd (NN.get (by k_mem)) (NN.get (by k_mem)))
end Mine
end

section
open PySem PySem.W PyProof.Rows PySem.Calls
namespace Mine
theorem list_init_run {M : Model} {A : Around} {E : Value → Shared → Prop} {s : Shared} {a d : Addr} {n : Nat} {Q : Fin → Shared → Prop} (ha : s.heap.get? a = some (accObj d #[] n))
    (h : ∀ h', Heap.SameBut a s.heap h' → h'.get? a = some (accObj d #[] n) → Q (.done (.ret .none)) { s with heap := h' }) : wpAny M A (Builtin.«list.__init__» ⟨[.ref a], []⟩) Q E s := by
  show wpAny M A (Builtin.List.listItems (.ref a) >>= fun old => updateSeq a (fun _ => #[]) >>= fun _ => letGo old.toList.reverse >>= fun _ => ret .none) Q E s
  have hi : wpAny M A (seqItems? (.ref a)) (fun r s' => r = some #[] ∧ s' = s) E s := by
    unfold seqItems?
    exact wpAny_bind (wpAny_loadPart ha (wpAny_pure ⟨rfl, rfl⟩))
  refine wpAny_bind (wpAny_bind (wpAny_mono hi (fun r s' q => ?_) fun _ _ e => e))
  obtain ⟨rfl, rfl⟩ := q
  refine wpAny_pure (wpAny_bind (wpAny_updateSeq ha rfl ?_ (by rw [sizeLine_eq]; simp) (by rw [sizeLine_eq]; simp)))
  refine wpAny_bind (wpAny_pure (wpAny_pure (h _ (Heap.SameBut.update ..) ?_)))
  rw [Heap.get?_update_self _ ha (by simp [Obj.mapSeq]; rfl)]
  simp [Obj.mapSeq]

theorem refuse_list (self : Value) : refuseLoop self "__setattr__" [.type "list", .type "object"] = pure () := by kernel_rfl
section
variable {prog : Program} {w : World} {A : Around} {E : Value → Shared → Prop} {s : Shared} {h₀ : Heap} {L a d : Addr} {m : Str → Option Value} {news' : List (Addr × Obj)} {news : List (Addr × Obj)} {K : Frag} {its : Array Value} {n : Nat} {v : Value}
/-- the first store of _initial_size into a new accumulator's dict -/
theorem acc_setattr {Q : Unit → Shared → Prop} (F : Fr h₀ L s.heap m) (X₀ : K.In h₀) (N : News h₀ L s.heap news) (ha : (a, accObj d its n) ∈ news)
    (hs : findIn K (.ref 108) "__setattr__" = some (some (.builtin "object.__setattr__"))) (hc : ∃ cd, clsIn K 108 = some cd ∧ cd.mro = [.ref 108, .type "list", .type "object"] ∧ cd.hasDict = true) (hobj : mroIn K 108 (.type "object") = some true)
    (ht : findIn K (.ref 108) "_initial_size" = some none)
    (U : Upd d (dictOf [] 0) (dictOf [⟨PyData.keyHash w.params "_initial_size", .str "_initial_size" (s.toks + 1), v⟩] 1) news news')
    (h : ∀ h', Fr h₀ L h' m → News h₀ L h' news' → Q () { s with heap := h', toks := s.toks + 2 }) :
    wpAny (model prog w) A (setAttr (.ref a) "_initial_size" v) Q E s := by
  obtain ⟨pre, post, rfl, rfl, h1, h2⟩ := U.split
  have X : K.In s.heap := X₀.keeps F.keep
  have D0 := (N (d, dictOf [] 0) (by simp)).1
  have I : InstAt s.heap a (accObj d its n) 108 (some (dictOf [] 0)) := acc_inst (N _ ha).1 D0
  obtain ⟨cd, hc, hmro, hdict⟩ := hc
  refine set_plain X I hs ?_
  have SF := PySem.F.store_object
  have sub : Looks (model prog w) s.heap (isInstance (.ref a) (.type "object")) true := I.type.andThen (looks_mroIn X hobj)
  refine codeAny_call_builtin SF.slot.plain SF.entry (@check_slot (model prog w) _ _ { s with toks := s.toks + 1 } "object.__setattr__" "object" "__setattr__" (.ref a) [.str "_initial_size" s.toks, v] [] _ SF.kind SF.split sub (SF.args (.ref a) (.str "_initial_size" s.toks) v) ?_)
  have hm : Looks (model prog w) s.heap (mroOf (.ref 108)) cd.mro := (looks_clsIn X hc).andThen .now
  rw [osa_eq, refuse_eq]
  refine wpAny_bind (wpAny_bind (I.type.here (s := { s with toks := s.toks + 1 }) (wpAny_bind (hm.here (s := { s with toks := s.toks + 1 }) ?_))))
  rw [hmro, refuseLoop_ref, refuse_list]
  refine wpAny_pure (wpAny_bind (I.type.here (s := { s with toks := s.toks + 1 }) (wpAny_bind ((looks_findIn X ht).here (s := { s with toks := s.toks + 1 }) (wpAny_bind (wpAny_pure ?_))))))
  obtain ⟨U1, U2⟩ := news_upd (f := Obj.putName "_initial_size" (PyData.keyHash w.params "_initial_size") (.str "_initial_size" (s.toks + 1)) v) F N h1 h2 (putName_dict _ _ _ _ _ _) rfl
  have D' := (U2 (d, _) (by simp; exact .inr (.inl rfl))).1
  refine wpAny_bind (wpAny_pure (wpAny_bind (wpAny_bind (wpAny_loadPart (s := { s with toks := s.toks + 1 }) (N _ ha).1 (wpAny_bind ((looks_clsIn X hc).here (s := { s with toks := s.toks + 1 }) ?_))))))
  rw [hdict]
  refine wpAny_pure (a := some d) (wpAny_bind (wpAny_pure (wpAny_bind ?_)))
  unfold nsSet
  refine wpAny_bind (wpAny_bind (wpAny_askSetting (wpAny_pure (wpAny_bind (wpAny_mkText (wpAny_bind (wpAny_loadPart (s := { s with toks := s.toks + 1 + 1 }) D0 ?_)))))))
  show wpAny _ _ (if aRefKeyMayBeTheName "_initial_size" #[] = true then _ else _) _ _ _
  rw [if_neg (by rw [aRefKeyMayBeTheName_at]; simp)]
  refine wpAny_updatePart (s := { s with toks := s.toks + 1 + 1 }) D0 ?_
  refine wpAny_bind (wpAny_lookBehind D' (pastItsLine_dict (by rw [List.size_toArray, sizeLine_eq]; simp [putL])) ?_)
  exact wpAny_pure (h _ U1 U2)
end
local macro_rules | `(tactic| k_inst) => `(tactic| exact acc_inst (News.get (by k_asm) (by k_mem)) (News.get (by k_asm) (by k_mem)))
local macro_rules | `(tactic| walk_at "getMethod ref") => `(tactic| (k_here; k_dflt (refine' super_method_b ?k1 ?k2 ?k3 ?k4 ?k5 ?k6 ?k7 ?k8 type_linit own_linit ?k9 ?_; (case k1 => k_asm); (case k2 => k_asm); (case k3 => k_asm); (case k4 => k_mem); (case k5 => k_mem); (case k6 => k_is); (case k7 => ks_is); (case k8 => k_is); (case k9 => decide); intro q' h' F' N' l1; (try k_lt l1))))
local macro_rules | `(tactic| walk_at "callWith ref") => `(tactic| (refine callWith_wrap (News.get (by k_asm) (by k_mem)) ?_))
theorem cls_acc {K : Frag} {cd : ClassData} (h : clsIn K 108 = some cd) (h2 : cd.mro = [.ref 108, .type "list", .type "object"]) (h3 : cd.hasDict = true) : ∃ cd, clsIn K 108 = some cd ∧ cd.mro = [.ref 108, .type "list", .type "object"] ∧ cd.hasDict = true := ⟨cd, h, h2, h3⟩
local macro_rules | `(tactic| walk_at "setAttr ref") => `(tactic| (k_here; k_dflt (refine' acc_setattr ?k1 ?k2 ?k3 ?k4 ?k5 (cls_acc ?k6 ?k7 ?k8) ?k9 ?j1 ?j2 ?_; (case k1 => k_asm); (case k2 => k_asm); (case k3 => k_asm); (case k4 => k_mem); (case k5 => k_is); (case k6 => k_is); (case k7 => rfl); (case k8 => rfl); (case k9 => k_is); (case j1 => k_is); (case j2 => k_upd); k_whole; intro h' F' N')))
section
variable {prog : Program} {w : World} {A : Around} {E : Value → Shared → Prop} {s : Shared} {h₀ : Heap} {L a d q : Addr} {m : Str → Option Value} {news' : List (Addr × Obj)} {news : List (Addr × Obj)} {n : Nat} {Q : Value → Shared → Prop}
theorem call_init (F : Fr h₀ L s.heap m) (N : News h₀ L s.heap news) (hq : (q, wrapObj "list.__init__" a) ∈ news) (U : Upd a (accObj d #[] n) (accObj d #[] n) news news')
    (h : ∀ h', Fr h₀ L h' m → News h₀ L h' news' → Q .none { s with heap := h' }) : wpAny (model prog w) A (call (.ref q) []) Q E s := by
  have hqo := N.get hq
  obtain ⟨pre, post, rfl, rfl, p1, p2⟩ := U.split
  have z := N (a, accObj d #[] n) (List.mem_append.mpr (.inr (.head _)))
  refine call_wrap hqo plain_linit entry_linit (bound_init _) (list_init_run z.1 fun h' hs ho => ⟨_, rfl, h h' (F.change hs z.2.1 z.2.2) (news_set N p1 p2 hs ho)⟩)
end
local macro_rules | `(tactic| walk_at "call ref") => `(tactic| (k_here; k_dflt (refine' call_init ?k1 ?k2 ?k3 ?k4 ?_; (case k1 => k_asm); (case k2 => k_asm); (case k3 => k_mem); (case k4 => k_upd); k_whole; intro h' F' N')))
theorem init_c : ∀ {w : World} {dp u : Nat} {fr : Option (List Env)} {gd : Option (List Code)} {h₀ : Heap} {mg mb : Str → Option Value} {s : Shared} {p : Program} {loose : List Str} {mean : ExcName → Option Value}
    {Q E : Value → Shared → Prop} (X : (hd.heap_1 w.params).In h₀) (T : Top p loose mean mg mb h₀) (hk : ∀ b o, h₀.get? b = some o → s.heap.get? b = some o) (hroom : dp < 600)
    (a d : Addr) (ha : s.heap.get? a = some (accObj d #[] 0)) (hd : s.heap.get? d = some (dictOf [] 0)) (hna : h₀.get? a = none) (hnd : h₀.get? d = none)
    (h : ∀ hs t1 t2 n2 h' tk', h'.get? a = some (accObj d #[] 0) → h'.get? d = some (accDict hs t1 t2 n2) → (∀ b o, b ≠ d → s.heap.get? b = some o → h'.get? b = some o) → Q .none { s with heap := h', toks := tk' }),
    codeAny (model PySem.Challenge.rw_re0035_01.row.prog w) ⟨none, dp, fr, gd, u⟩ (.call (.ref 45) ⟨[.ref a], []⟩) (fun r s' => match r with | .ok (.ret v) => Q v s' | .ok _ => False | .error e => E e s') s := by
  k_fill
  intro w dp u fr gd h₀ mg mb s p loose mean Q E X T hk hroom a d ha hd hna hnd h
  refine' enterSC (as := [a, d]) (binds := [(Str.ofString "self", .ref a), (Str.ofString "initial_size", .int 0 222)]) X T hk ?n ?k6 ?k7 ?k8 ?k9 ?kB ?c2 ?c3 ?c4 ?c5 ?_
  case n => intro b hb; rcases List.mem_cons.mp hb with rfl | hb; exact hna; rw [List.mem_singleton.mp hb]; exact hnd
  case k6 => k_is
  case k7 => k_is
  case k8 => simp only [recursionLimit]; omega
  case k9 => exact binds_K (X.keeps hk) rfl (by k_is) rfl rfl rfl
  case c5 => decide
  case kB => exact locs rfl
  case c2 => exact rfl
  case c3 => exact rfl
  case c4 => exact rfl
  intro g L h₁ tk₁ hg hL F' hk₁ X' T'
  have N' : News g L h₁ [(a, accObj d #[] 0), (d, dictOf [] 0)] := fun p hp => by
    rcases List.mem_cons.mp hp with rfl | hp
    · exact ⟨hk₁ _ _ ha, Nat.ne_of_lt (hL ▸ Heap.lt_size ha), hg ▸ hideAll_none _ (.head _)⟩
    · rw [List.mem_singleton.mp hp]
      exact ⟨hk₁ _ _ hd, Nat.ne_of_lt (hL ▸ Heap.lt_size hd), hg ▸ hideAll_none _ (.tail _ (.head _))⟩
  have hda : @Ne Nat d a := fun e => by rw [e, ha] at hd; cases hd
  clear X T hk hk₁
  iterate 6 walk1
  dsimp only
  walk1
  refine ks_wpAt_Expr_any (ks_wpAt_MethodCall ?_)
  k_steps
  all_goals
    (with_reducible rename News _ _ _ _ => NN)
    (with_reducible rename Fr _ _ _ _ => FF)
    refine h _ _ _ _ _ _ (NN.get (by k_mem)) (NN.get (by k_mem)) (fun b o hb e => ?_)
    by_cases ea : b = a
    · subst ea; rw [ha] at e; cases e; exact NN.get (by k_mem)
    · exact FF.keep b o (hg ▸ get_hide e (by simp [ea, hb]))
end Mine
end

section
open PySem PySem.W PyProof.Rows PySem.Calls
namespace Mine
noncomputable abbrev M0 (w : World) : Model := model PySem.Challenge.rw_re0035_01.row.prog w
section
variable {w : World} {h : Heap}
theorem acc_made (X : (hd.heap_1 w.params).In h) : Looks (M0 w) h (Bind.madeBy (.ref 108)) (some "list.__new__") := Looks.of_peek X (by kernel_rfl)
theorem acc_base (X : (hd.heap_1 w.params).In h) : Looks (M0 w) h (Bind.staticBase (.ref 108)) (.ref 108) := Looks.of_peek X (by kernel_rfl)
theorem acc_call (X : (hd.heap_1 w.params).In h) : Looks (M0 w) h (specialOf (.ref 108) "__call__") (some (.builtin "type.__call__")) := Looks.of_peek X (by kernel_rfl)
theorem acc_typ (X : (hd.heap_1 w.params).In h) : Looks (M0 w) h (isInstance (.ref 108) (.type "type")) true := Looks.of_peek X (by kernel_rfl)
theorem acc_isType (X : (hd.heap_1 w.params).In h) : Looks (M0 w) h (isType (.ref 108)) true := Looks.of_peek X (by kernel_rfl)
theorem acc_sub (X : (hd.heap_1 w.params).In h) : Looks (M0 w) h (isSubtype (.ref 108) (.ref 108)) true := Looks.of_peek X (by kernel_rfl)
theorem acc_subL (X : (hd.heap_1 w.params).In h) : Looks (M0 w) h (isSubtype (.ref 108) (.type "list")) true := Looks.of_peek X (by kernel_rfl)
theorem acc_mro (X : (hd.heap_1 w.params).In h) : Looks (M0 w) h (mroOf (.ref 108)) [.ref 108, .type "list", .type "object"] := Looks.of_peek X (by kernel_rfl)
theorem acc_init (X : (hd.heap_1 w.params).In h) : Looks (M0 w) h (typeLookup (.ref 108) "__init__") (some (.ref 45)) := Looks.of_peek X (by kernel_rfl)
theorem acc_del (X : (hd.heap_1 w.params).In h) : Looks (M0 w) h (classHasDel 108) false := Looks.of_peek X (by kernel_rfl)
theorem acc_bind (X : (hd.heap_1 w.params).In h) (self : Value) : Looks (M0 w) h (bindSpecial (.ref 45) self) (.ref 45, [self]) := Looks.of_peek X (by kernel_rfl)
theorem acc_newCheck (X : (hd.heap_1 w.params).In h) : Looks (M0 w) h (checkBuiltinCall "list.__new__" ⟨[.ref 108], []⟩) () := Looks.of_peek X (by kernel_rfl)
theorem acc_tcCheck (X : (hd.heap_1 w.params).In h) : Looks (M0 w) h (checkBuiltinCall "type.__call__" ⟨[.ref 108], []⟩) () := Looks.of_peek X (by kernel_rfl)
end

theorem acc_cls {w : World} {h : Heap} (X : (hd.heap_1 w.params).In h) : ∃ oc od cd sl, h.get? 108 = some ⟨oc, od, .cls cd, sl⟩ := ⟨_, _, _, _, X 108 _ rfl⟩
section
variable {w : World} {A : Around} {h : Heap} {g : Array GenState} {d : Drawn} {t : Nat} {os : OsState} {R : Result → Shared → Prop}
theorem acc_new (X : (hd.heap_1 w.params).In h) (hq : R (.ok (.ret (.ref (h.objs.size + 1)))) ⟨(h.push emptyDict).push (accObj h.objs.size #[] 0), g, d, t, os⟩) :
    codeAny (M0 w) A (.call (.builtin "list.__new__") ⟨[.ref 108], []⟩) R ⟨h, g, d, t, os⟩ := by
  refine codeAny_of_tree ?_
  show wpAny _ A.in1 (do checkBuiltinCall "list.__new__" ⟨[.ref 108], []⟩; again (.builtin "list.__new__" ⟨[.ref 108], []⟩)) _ _ _
  refine wpAny_bind ((acc_newCheck X).at (wpAny_pure ⟨plainId_quiet F.plain_list_new _, codeAny_builtin_stack F.entry_list_new rfl fun p st => ?_⟩))
  rw [Around.under_plainId F.plain_list_new _]
  have hown := owner_list_new
  have h1 := acc_isType X
  have h2 := acc_subL X
  simp only [hown]
  refine wpAny_bind (h1.at ?_)
  rw [if_neg (by decide)]
  refine wpAny_bind (h2.at ?_)
  rw [if_neg (by decide)]
  refine wpAny_bind (wpAny_pure ?_)
  rw [if_neg (by decide)]
  refine wpAny_bind (wpAny_newObj_type ?_ (by size_fits))
  have X2 : (hd.heap_1 w.params).In ((h.push emptyDict).push (accObj h.objs.size #[] 0)) := X.keeps fun b o e => Heap.get?_push_of_some _ (Heap.get?_push_of_some _ e)
  dsimp only
  refine wpAny_bind ?_
  unfold newObj
  dsimp only
  rw [if_neg (by rw [sizeLine_eq]; decide)]
  unfold newObjAsIs
  refine wpAny_bind (wpAny_alloc (wpAny_bind ((acc_del X2).at ?_)))
  refine wpAny_pure (wpAny_pure ?_)
  show R _ _
  rw [Heap.size_push]
  exact hq

theorem tc_under (A : Around) : (A.under (.builtin "type.__call__" ⟨[.ref 108], []⟩)) = { A with depth := A.depth + 1, units := A.units + 1 } := by
  unfold Around.under
  congr 1
theorem acc_make (X : (hd.heap_1 w.params).In h)
    (hq : codeAny (M0 w) (A.under (.builtin "type.__call__" ⟨[.ref 108], []⟩)) (.call (.ref 45) ⟨[.ref (h.objs.size + 1)], []⟩) (InitBack (h.objs.size + 1) R) ⟨(h.push emptyDict).push (accObj h.objs.size #[] 0), g, d, t, os⟩) :
    codeAny (M0 w) A (.call (.ref 108) ⟨[], []⟩) R ⟨h, g, d, t, os⟩ := by
  obtain ⟨oc, od, cd, sl, hC⟩ := acc_cls X
  refine codeAny_of_tree ?_
  show wpAny _ _ (callAny (.ref 108) _) _ _ _
  refine nd_load hC ?_
  show wpAny _ _ (callAny.viaDunder (.ref 108) _) _ _ _
  unfold callAny.viaDunder
  refine wpAny_bind ((acc_call X).at ?_)
  dsimp only
  rw [tc_bind]
  refine wpAny_bind (wpAny_pure (wpAny_bind (wpAny_pure ?_)))
  refine wpAny_pure (a := Fin.again (.call (.builtin "type.__call__") ⟨[.ref 108], []⟩)) (And.intro rfl ?_)
  refine codeAny_call_builtin_at (Code.quiet_builtin _ (by decide +kernel)) entry_typeCall ((acc_tcCheck X).at ?_)
  unfold Builtin.«type.__call__»
  have hm := acc_mro X
  have made := acc_made X
  repeat (first | simp only [List.isEmpty_cons, Bool.false_eq_true, if_false] | with_reducible refine wpAny_call ?_ | lk)
  refine acc_new X ?_
  have k : ∀ b o, h.get? b = some o → ((h.push emptyDict).push (accObj h.objs.size #[] 0)).get? b = some o := fun b o e => Heap.get?_push_of_some _ (Heap.get?_push_of_some _ e)
  have X2 := X.keeps k
  have hx : ((h.push emptyDict).push (accObj h.objs.size #[] 0)).get? (h.objs.size + 1) = some (accObj h.objs.size #[] 0) := by heap_get
  have t1 : Looks (M0 w) ((h.push emptyDict).push (accObj h.objs.size #[] 0)) (typeOf (.ref (h.objs.size + 1))) (.ref 108) := (Looks.ld hx).andThen .now
  have s1 := acc_sub X2
  have i1 := acc_init X2
  have b1 := acc_bind X2 (.ref (h.objs.size + 1))
  unfold isInstance callSpecial? specialOf
  repeat (first | with_reducible refine wpAny_call ?_ | lk)
  refine codeAny_mono hq fun r s' z => ?_
  rcases r with e | (v | _ | _ | _) <;> first | exact z | exact z.elim | skip
  obtain ⟨rfl, z⟩ := z
  exact wpAny_pure (wpAny_pure z)
end

/-- _Accumulator() -/
theorem acc_c : ∀ {w : World} {dp u : Nat} {fr : Option (List Env)} {gd : Option (List Code)} {h₀ : Heap} {mg mb : Str → Option Value} {s : Shared} {p : Program} {loose : List Str} {mean : ExcName → Option Value}
    {Q E : Value → Shared → Prop} (X : (hd.heap_1 w.params).In h₀) (T : Top p loose mean mg mb h₀) (hk : ∀ b o, h₀.get? b = some o → s.heap.get? b = some o) (hroom : dp < 500)
    (h : ∀ a d hs t1 t2 n2 h' tk', s.heap.get? a = none → s.heap.get? d = none → h'.get? a = some (accObj d #[] 0) → h'.get? d = some (accDict hs t1 t2 n2) → (∀ b o, s.heap.get? b = some o → h'.get? b = some o) → Q (.ref a) { s with heap := h', toks := tk' }),
    wpAny (model PySem.Challenge.rw_re0035_01.row.prog w) ⟨none, dp, fr, gd, u⟩ (call (.ref 108) []) Q E s := by
  intro w dp u fr gd h₀ mg mb s p loose mean Q E X T hk hroom h
  obtain ⟨hh, g, d, t, os⟩ := s
  refine wpAny_call (acc_make (X.keeps hk) ?_)
  rw [tc_under]
  have k : ∀ b o, hh.get? b = some o → ((hh.push emptyDict).push (accObj hh.objs.size #[] 0)).get? b = some o := fun b o e => Heap.get?_push_of_some _ (Heap.get?_push_of_some _ e)
  have hx : ((hh.push emptyDict).push (accObj hh.objs.size #[] 0)).get? (hh.objs.size + 1) = some (accObj hh.objs.size #[] 0) := by heap_get
  have hd : ((hh.push emptyDict).push (accObj hh.objs.size #[] 0)).get? hh.objs.size = some (dictOf [] 0) := Heap.get?_push_of_some _ (Heap.get?_push_size _ rfl)
  have n1 : ∀ j, hh.get? (hh.objs.size + j) = none := fun j => by
    cases q : hh.get? (hh.objs.size + j) with
    | none => rfl
    | some o => exact absurd (Heap.lt_size q) (Nat.not_lt.mpr (Nat.le_add_right _ _))
  have n2 : ∀ j, h₀.get? (hh.objs.size + j) = none := fun j => by
    cases q : h₀.get? (hh.objs.size + j) with
    | none => rfl
    | some o => have := hk _ _ q; rw [n1 j] at this; cases this
  refine codeAny_mono (init_c (Q := fun v s' => v = .none ∧ Q (.ref (hh.objs.size + 1)) s') (E := E) X T (fun b o e => k b o (hk b o e)) (by show dp + 1 < 600; omega) (hh.objs.size + 1) hh.objs.size hx hd (n2 1) (n2 0) fun hs t1 t2 nn h' tk' e1 e2 e3 => ⟨rfl, h _ _ _ _ _ _ _ _ (n1 1) (n1 0) e1 e2 fun b o e => e3 b o (fun q => by have := n1 0; rw [Nat.add_zero] at this; rw [q] at e; exact absurd (this.symm.trans e) (fun z => nomatch z)) (k b o e)⟩) ?_
  intro r s' z
  rcases r with e | (v | _ | _ | _) <;> first | exact z | exact z.elim
end Mine
end

section
open PySem PySem.W PyProof.Rows PySem.Calls
namespace Mine
section
variable {w : World} {h : Heap}
theorem acc_seqTypes (X : (hd.heap_1 w.params).In h) : Looks (M0 w) h (seqItemTypes.anyM fun n => isSubtype (.ref 108) (.type n)) false := Looks.of_peek X (by kernel_rfl)
theorem acc_getitem (X : (hd.heap_1 w.params).In h) : Looks (M0 w) h (typeLookup (.ref 108) "__getitem__") (some (.builtin "list.__getitem__")) := Looks.of_peek X (by kernel_rfl)
theorem acc_setitem (X : (hd.heap_1 w.params).In h) : Looks (M0 w) h (typeLookup (.ref 108) "__setitem__") (some (.builtin "list.__setitem__")) := Looks.of_peek X (by kernel_rfl)
end
theorem bind_getitem (self : Value) : bindSpecial (.builtin "list.__getitem__") self = pure (.builtin "list.__getitem__", [self]) := slot_list_getitem.bind self
theorem slot_lset : Slot "list" "__setitem__" "list.__setitem__" := .of (owner := "list") (n := "__setitem__") (by rw [typeLookup_type, builtinLookup_eq_fast]; kernel_rfl) (by decide +kernel) (by decide +kernel) (by decide +kernel)
  (by first | exact .inl (by decide +kernel) | exact .inr (by decide +kernel)) (by rw [isSubtype_type]; kernel_rfl)
theorem bind_setitem (self : Value) : bindSpecial (.builtin "list.__setitem__") self = pure (.builtin "list.__setitem__", [self]) := slot_lset.bind self
theorem entry_lset : entryFor table "list.__setitem__" = some Builtin.«list.__setitem__» := entryFor_of_tree (by kernel_rfl)
theorem args_lset (a b c : Value) : argsOk "list.__setitem__" ⟨[a, b, c], []⟩ := by unfold argsOk; kernel_rfl
theorem kind_lget : builtinKind "list.__getitem__" = some .method := by decide +kernel
theorem kind_lset : builtinKind "list.__setitem__" = some .slot := by decide +kernel
theorem split_lget : splitId "list.__getitem__" = some ("list", "__getitem__") := by decide +kernel
theorem split_lset : splitId "list.__setitem__" = some ("list", "__setitem__") := by decide +kernel
section
variable {w : World} {A : Around} {E : Value → Shared → Prop} {s : Shared} {a d sl : Addr} {its : Array Value} {n : Nat} {vl vu vs : Value} {lo hi st : Option Int}
theorem acc_isL (X : (hd.heap_1 w.params).In s.heap) (ha : s.heap.get? a = some (accObj d its n)) : Looks (M0 w) s.heap (isInstance (.ref a) (.type "list")) true := ((Looks.ld ha).andThen .now).andThen (acc_subL X)
theorem acc_type (ha : s.heap.get? a = some (accObj d its n)) : Looks (M0 w) s.heap (typeOf (.ref a)) (.ref 108) := (Looks.ld ha).andThen .now
theorem acc_seqKey {k : Value} {name : Str} {Q : Value → Shared → Prop} (X : (hd.heap_1 w.params).In s.heap) (ha : s.heap.get? a = some (accObj d its n)) (h : Q k s) : wpAny (M0 w) A (sequenceKey (.ref a) k name) Q E s := by
  unfold sequenceKey
  refine wpAny_bind ((acc_type ha).here ?_)
  dsimp only
  refine wpAny_bind ((acc_seqTypes X).here ?_)
  rw [if_pos (by decide)]
  exact wpAny_pure h
theorem acc_callSpecial {f : String} {name : Str} {args : List Value} {Q : Option Value → Shared → Prop} (ha : s.heap.get? a = some (accObj d its n)) (hf : Looks (M0 w) s.heap (typeLookup (.ref 108) name) (some (.builtin f)))
    (hb : bindSpecial (.builtin f) (.ref a) = pure (.builtin f, [.ref a])) (h : wpAny (M0 w) A (call (.builtin f) (.ref a :: args)) (fun v => Q (some v)) E s) : wpAny (M0 w) A (callSpecial? (.ref a) name args) Q E s := by
  unfold callSpecial? specialOf
  refine wpAny_bind (wpAny_bind ((acc_type ha).here (hf.here ?_)))
  dsimp only
  refine wpAny_holding (wpAny_bind (wpAny_of_eq hb ?_))
  exact wpAny_bind (wpAny_mono h (fun _ _ x => wpAny_pure x) fun _ _ x => x)
theorem acc_getItem_slice {Q : Value → Shared → Prop} (X : (hd.heap_1 w.params).In s.heap) (ha : s.heap.get? a = some (accObj d its n)) (hs : s.heap.IsSliceOf sl vl vu vs) (pl : IsPart vl lo) (pu : IsPart vu hi) (ps : IsPart vs st) (h0 : st ≠ some 0)
    (h : Q (.ref s.heap.objs.size) { s with heap := s.heap.push { cls := .type "list", data := .seq (slicePick its lo hi st) } }) (hsz : its.size ≤ sizeLine) : wpAny (M0 w) A (getItem (.ref a) (.ref sl)) Q E s := by
  obtain ⟨os, hos, hcs, hds⟩ := id hs
  have hTs : s.TypeIs (.ref sl) "slice" := ⟨os, hos, hcs⟩
  unfold getItem
  refine wpAny_holding ?_
  refine wpAny_bind (acc_seqKey X ha ?_)
  refine wpAny_bind (acc_callSpecial ha (acc_getitem X) (bind_getitem _) (call_method_sub slot_list_getitem.plain entry_list_getitem kind_lget split_lget (acc_isL X ha) (args_list_getitem _ _) ?_))
  show wpAny _ _ (Builtin.List.listSubscript? (.ref sl) >>= _) _ _ s
  refine wpAny_bind ?_
  unfold Builtin.List.listSubscript?
  refine wpAny_bind (wpAny_specialOf hTs slice_no_index ?_)
  simp only [Option.isNone_none, if_true]
  refine wpAny_pure ?_
  show wpAny _ _ (typeOf (.ref sl) >>= _) _ _ s
  refine wpAny_bind (wpAny_typeOf hTs ?_)
  rw [if_neg (by decide)]
  rw [listSliceParts_eq]
  have hstep : ¬ ((rawPart st == rawInt 0) = true) := by
    cases st with
    | none => exact Bool.false_ne_true
    | some c =>
      intro hh
      have : c = 0 := by simpa [rawPart, rawInt] using hh
      exact h0 (by rw [this])
  refine wpAny_bind (wpAny_bind (wpAny_field hos hds (x := vs) rfl (wpAny_bind (wpAny_listPart ps ?_))))
  rw [if_neg hstep]
  refine wpAny_bind (wpAny_field hos hds (x := vl) rfl (wpAny_bind (wpAny_listPart pl ?_)))
  refine wpAny_bind (wpAny_field hos hds (x := vu) rfl (wpAny_bind (wpAny_listPart pu (wpAny_pure ?_))))
  refine wpAny_bind (m := Builtin.List.listItems (.ref a)) ?_
  unfold Builtin.List.listItems
  refine wpAny_bind (wpAny_seqItems ha rfl (wpAny_pure ?_))
  refine wpAny_bind (wpAny_of_eq (sliceIndices_raw lo hi st its.size h0) ?_)
  exact wpAny_bind (wpAny_newObj_type (wpAny_pure ⟨_, rfl, wpAny_pure h⟩) (Nat.le_trans (slicePick_size_le its lo hi st) hsz))
theorem part_len {a b n e l : Nat} (h : a ≤ b) (h2 : n + e ≤ l) : min a n - 0 + e + (min n n - b) ≤ l := by
  rw [Nat.min_self, Nat.sub_zero]
  refine Nat.le_trans ?_ h2
  rcases Nat.le_total n b with q | q
  · rw [Nat.sub_eq_zero_of_le q, Nat.add_zero]
    exact Nat.add_le_add_right (Nat.min_le_right _ _) _
  · rw [Nat.add_right_comm]
    refine Nat.add_le_add_right (Nat.le_trans (Nat.add_le_add_right (Nat.le_trans (Nat.min_le_left _ _) h) _) ?_) _
    rw [Nat.add_sub_cancel' q]
    exact Nat.le_refl _
theorem acc_setItem_slice {Q : Unit → Shared → Prop} {e : Addr} {new : Array Value} {ne : Nat} (X : (hd.heap_1 w.params).In s.heap) (ha : s.heap.get? a = some (accObj d its n)) (hs : s.heap.IsSliceOf sl vl vu .none) (pl : IsPart vl lo) (pu : IsPart vu hi)
    (he : s.heap.get? e = some { cls := .type "list", data := .seq new ne }) (hea : a ≠ e) (hsz : its.size + new.size ≤ sizeLine)
    (h : ∀ h', Heap.SameBut a s.heap h' → (∃ n', h'.get? a = some (accObj d (its.extract 0 (sliceBounds lo hi none its.size).1.toNat ++ new ++ its.extract (max (sliceBounds lo hi none its.size).1 (sliceBounds lo hi none its.size).2.1).toNat its.size) n')) → Q () { s with heap := h' }) :
    wpAny (M0 w) A (setItem (.ref a) (.ref sl) (.ref e)) Q E s := by
  obtain ⟨os, hos, hcs, hds⟩ := id hs
  have hTs : s.TypeIs (.ref sl) "slice" := ⟨os, hos, hcs⟩
  have hTe : s.TypeIs (.ref e) "list" := ⟨_, he, rfl⟩
  unfold setItem
  refine wpAny_holding ?_
  refine wpAny_bind (acc_seqKey X ha ?_)
  refine wpAny_bind (acc_callSpecial ha (acc_setitem X) (bind_setitem _) (call_slot_sub slot_lset.plain entry_lset kind_lset split_lset (acc_isL X ha) (args_lset _ _ _) ?_))
  show wpAny _ _ (Builtin.List.listSubscript? (.ref sl) >>= _) _ _ s
  refine wpAny_bind ?_
  unfold Builtin.List.listSubscript?
  refine wpAny_bind (wpAny_specialOf hTs slice_no_index ?_)
  simp only [Option.isNone_none, if_true]
  refine wpAny_pure ?_
  show wpAny _ _ (typeOf (.ref sl) >>= _) _ _ s
  refine wpAny_bind (wpAny_typeOf hTs ?_)
  rw [if_neg (by decide)]
  rw [listSliceParts_eq]
  refine wpAny_bind (wpAny_bind (wpAny_field hos hds (x := .none) rfl (wpAny_bind (wpAny_listPart .none ?_))))
  rw [if_neg (by decide)]
  refine wpAny_bind (wpAny_field hos hds (x := vl) rfl (wpAny_bind (wpAny_listPart pl ?_)))
  refine wpAny_bind (wpAny_field hos hds (x := vu) rfl (wpAny_bind (wpAny_listPart pu (wpAny_pure ?_))))
  rw [if_neg (show ¬ Builtin.List.listSameRef (.ref a) (.ref e) = true from by simp [Builtin.List.listSameRef, hea])]
  refine wpAny_bind ?_
  unfold Builtin.List.listAllItems
  refine wpAny_bind (wpAny_typeOf hTe ?_)
  rw [if_pos (by decide)]
  unfold Builtin.List.listItems
  refine wpAny_bind (wpAny_seqItems he rfl (wpAny_pure ?_))
  refine wpAny_bind (wpAny_bind (wpAny_seqItems ha rfl (wpAny_pure ?_)))
  refine wpAny_bind (wpAny_of_eq (sliceIndices_raw lo hi none its.size (by simp)) ?_)
  rw [if_pos (show ((sliceBounds lo hi none its.size).2.2 == 1) = true from by simp [sliceBounds])]
  refine wpAny_bind (wpAny_rule ?_)
  rw [if_neg (show ¬ Builtin.List.listTooLong (its.size + new.size) = true from by simp only [Builtin.List.listTooLong, decide_eq_true_eq]; omega)]
  refine wpAny_bind ?_
  refine wpAny_updateSeq ha rfl ?_ (by omega) ?_
  · refine wpAny_bind ?_
    have lg : ∀ (l : List Value) (s' : Shared) (Q' : Unit → Shared → Prop) (E' : Value → Shared → Prop), Q' () s' → wpAny (M0 w) A.in1 (letGo l) Q' E' s' := by
      intro l
      induction l with
      | nil => exact fun s' Q' E' q => wpAny_pure q
      | cons x l ih => exact fun s' Q' E' q => wpAny_bind (wpAny_holding (wpAny_point (ih s' Q' E' q)))
    refine lg _ _ _ _ (wpAny_pure ⟨_, rfl, wpAny_pure (h _ (Heap.SameBut.update ..) ?_)⟩)
    have ug := Heap.get?_update_self (h := s.heap) (Obj.mapSeq fun xs => xs.extract 0 (sliceBounds lo hi none its.size).1.toNat ++ new ++ xs.extract (max (sliceBounds lo hi none its.size).1 (sliceBounds lo hi none its.size).2.1).toNat xs.size) ha rfl
    exact ⟨_, ug⟩
  · simp only [Array.size_append, Array.size_extract]
    exact part_len (Int.toNat_le_toNat (Int.le_max_left _ _)) (Nat.le_succ_of_le hsz)

theorem acc_subTail {value slice : Expr} {i : Value} {ops : List Value} {Q : Value → Shared → Prop} (X : (hd.heap_1 w.params).In s.heap) (ha : s.heap.get? a = some (accObj d its n)) (h : wpAny (M0 w) A (getItem (.ref a) i) Q E s)
    (hs : subscripted slice false (.ref a) i = operate ops (getItem (.ref a) i)) (ht : ∀ r, letTemporaryGo value (.ref a) r = pure ()) : wpAny (M0 w) A (subscriptTail value slice (.ref a) i) Q E s := by
  have fin : wpAny (M0 w) A (subscripted slice false (.ref a) i) (fun r s₃ => wpAny (M0 w) A (letTemporaryGo value (.ref a) r >>= fun _ => pure r) Q E s₃) E s := by
    rw [hs]
    exact wpAny_operating (wpAny_mono h (fun r s₃ h₃ => wpAny_bind (wpAny_of_eq (ht r) (wpAny_pure h₃))) fun _ _ x => x)
  unfold subscriptTail
  refine wpAny_bind ?_
  unfold getitemInPython specialOf
  refine wpAny_bind (wpAny_bind ((acc_type ha).here ((acc_getitem X).here ?_)))
  first
    | exact wpAny_pure (wpAny_bind fin)
    | exact wpAny_bind (wpAny_pure (wpAny_bind fin))
    | exact wpAny_bind fin
    | exact wpAny_pure (wpAny_pure (wpAny_bind fin))
variable {h₀ : Heap} {L : Addr} {m : Str → Option Value} {news news' : List (Addr × Obj)}
theorem acc_slice {value slice : Expr} {Q : Value → Shared → Prop} (F : Fr h₀ L s.heap m) (X₀ : (hd.heap_1 w.params).In h₀) (N : News h₀ L s.heap news) (ha : (a, accObj d its n) ∈ news) (pl : IsPart vl lo) (pu : IsPart vu hi)
    (h : ∀ h', Fr h₀ L h' m → News h₀ L h' ((s.heap.objs.size + 1, { cls := .type "list", data := .seq (slicePick its lo hi none) }) :: news) → Q (.ref (s.heap.objs.size + 1)) { s with heap := h' })
    (hs : subscripted slice false (.ref a) (.ref s.heap.objs.size) = operate [.ref s.heap.objs.size, .ref a] (getItem (.ref a) (.ref s.heap.objs.size)) := by with_unfolding_all rfl)
    (ht : ∀ r, letTemporaryGo value (.ref a) r = pure () := by intro _; with_unfolding_all rfl)
    (hsz : its.size ≤ sizeLine) :
    wpAny (M0 w) A (subscriptTail value slice (.ref a) (.ref s.heap.objs.size)) Q E { s with heap := s.heap.push { cls := .type "slice", data := .fields #[vl, vu, .none] } } := by
  have X : (hd.heap_1 w.params).In (s.heap.push { cls := .type "slice", data := .fields #[vl, vu, .none] }) := X₀.keeps fun b o e => Heap.get?_push_of_some _ (F.keep b o e)
  have ha' : (s.heap.push { cls := .type "slice", data := .fields #[vl, vu, .none] }).get? a = some (accObj d its n) := Heap.get?_push_of_some _ (N.get ha)
  refine acc_subTail (s := { s with heap := s.heap.push { cls := .type "slice", data := .fields #[vl, vu, .none] } }) X ha' (acc_getItem_slice (s := { s with heap := s.heap.push { cls := .type "slice", data := .fields #[vl, vu, .none] } }) X ha' (Heap.IsSliceOf.new ..) pl pu .none (by simp) ?_ hsz) hs ht
  have N1 := News.push (F.push { cls := .type "slice", data := .fields #[vl, vu, .none] }) (N.grown fun _ _ e => Heap.get?_push_of_some _ e) { cls := .type "list", data := .seq (slicePick its lo hi none) }
  rw [Heap.size_push] at N1
  show Q (.ref (s.heap.push _).objs.size) _
  rw [Heap.size_push]
  exact h _ ((F.push _).push _) N1
theorem cut_from (its : Array Value) (i : Nat) (hi : i ≤ its.size) : its.extract 0 (sliceBounds (some (i : Int)) none none its.size).1.toNat ++ #[] ++ its.extract (max (sliceBounds (some (i : Int)) none none its.size).1 (sliceBounds (some (i : Int)) none none its.size).2.1).toNat its.size = its.extract 0 i := by
  have e : sliceBounds (some (i : Int)) none none its.size = ((i : Int), (its.size : Int), 1) := by
    simp only [sliceBounds, Option.getD_none]
    have : ¬ ((i : Int) < 0) := by omega
    simp [this]
    omega
  rw [e]
  have m : (max (i : Int) (its.size : Int)).toNat = its.size := by omega
  simp [m]
/-- self[i:] = [], the accumulator at the ledger's head -/
theorem acc_setslice {Q : Unit → Shared → Prop} {e : Addr} {ne i : Nat} {ti : Tok} (F : Fr h₀ L s.heap m) (X₀ : (hd.heap_1 w.params).In h₀) (N : News h₀ L s.heap ((a, accObj d its n) :: news)) (hn : ∀ p ∈ news, p.1 ≠ a)
    (he : (e, { cls := .type "list", data := .seq #[] ne }) ∈ news) (hi : i ≤ its.size) (hz : its.size ≤ 1000)
    (h : ∀ n' h', Fr h₀ L h' m → News h₀ L h' ((a, accObj d (its.extract 0 i) n') :: news) → Q () { s with heap := h' }) :
    wpAny (M0 w) A (setItem (.ref a) (.ref s.heap.objs.size) (.ref e)) Q E { s with heap := s.heap.push { cls := .type "slice", data := .fields #[.int i ti, .none, .none] } } := by
  have X : (hd.heap_1 w.params).In (s.heap.push { cls := .type "slice", data := .fields #[.int i ti, .none, .none] }) := X₀.keeps fun b o e => Heap.get?_push_of_some _ (F.keep b o e)
  have N1 : News h₀ L (s.heap.push { cls := .type "slice", data := .fields #[.int i ti, .none, .none] }) ((a, accObj d its n) :: news) := N.grown fun _ _ e => Heap.get?_push_of_some _ e
  have z := N1 _ (.head _)
  refine acc_setItem_slice (s := { s with heap := s.heap.push { cls := .type "slice", data := .fields #[.int i ti, .none, .none] } }) X z.1 (Heap.IsSliceOf.new ..) (.int _ _) .none (N1.get (.tail _ he)) (fun q => hn _ he q.symm) (by rw [sizeLine_eq]; simp; omega) ?_
  intro h' sb ⟨n', hn'⟩
  rw [cut_from its i hi] at hn'
  refine h n' h' ((F.push _).change sb z.2.1 z.2.2) ?_
  intro p hp
  rcases List.mem_cons.mp hp with rfl | hp
  · exact ⟨hn', z.2⟩
  · exact ⟨(sb.2 _ (hn p hp)).trans (N1 p (.tail _ hp)).1, (N1 p (.tail _ hp)).2⟩
end
end Mine
end

section
open PySem PySem.W PyProof.Rows PySem.Calls
namespace Mine
local macro_rules | `(tactic| walk_at "subscriptTail Name Slice") => `(tactic| refine hold ?_)
local macro_rules | `(tactic| walk_at "setItem ref ref") => `(tactic| refine hold ?_)
theorem pop_from_c : ∀ {w : World} {dp u : Nat} {fr : Option (List Env)} {gd : Option (List Code)} {h₀ : Heap} {mg mb : Str → Option Value} {s : Shared} {p : Program} {loose : List Str} {mean : ExcName → Option Value}
    {Q E : Value → Shared → Prop} (X : (hd.heap_1 w.params).In h₀) (T : Top p loose mean mg mb h₀) (hk : ∀ b o, h₀.get? b = some o → s.heap.get? b = some o) (hroom : dp < 600)
    (a d : Addr) (its : Array Value) (n n2 : Nat) (hs : Int) (t1 t2 : Tok) (ha : s.heap.get? a = some (accObj d its n)) (hd : s.heap.get? d = some (accDict hs t1 t2 n2)) (hna : h₀.get? a = none) (hnd : h₀.get? d = none) (hz : its.size ≤ 1000)
    (i : Nat) (ti : Tok) (hi : i ≤ its.size)
    (h : ∀ v n' h' tk', h'.get? a = some (accObj d (its.extract 0 i) n') → (∀ b o, b ≠ a → s.heap.get? b = some o → h'.get? b = some o) → Q v { s with heap := h', toks := tk' }),
    wpAny (model PySem.Challenge.rw_re0035_01.row.prog w) ⟨none, dp, fr, gd, u⟩ (call (.ref 60) [.ref a, .int i ti]) Q E s := by
  k_fill
  intro w dp u fr gd h₀ mg mb s p loose mean Q E X T hk hroom a d its n n2 hs t1 t2 ha hd hna hnd hz i ti hi h
  refine' enter (as := [a, d]) (binds := [(Str.ofString "self", .ref a), (Str.ofString "i", .int i ti)]) X T hk ?n ?k6 ?k7 ?k8 ?k9 ?kB ?c2 ?c3 ?c4 ?c5 ?_
  case n => intro b hb; rcases List.mem_cons.mp hb with rfl | hb; exact hna; rw [List.mem_singleton.mp hb]; exact hnd
  case k6 => k_is
  case k7 => k_is
  case k8 => simp only [recursionLimit]; omega
  case k9 => exact binds_K (X.keeps hk) rfl (by k_is) rfl rfl rfl
  case c5 => decide
  case kB => exact locs rfl
  case c2 => exact rfl
  case c3 => exact rfl
  case c4 => exact rfl
  intro g L h₁ tk₁ hg hL F' hk₁ X' T'
  have N' := acc_news hg hL hk₁ ha hd
  clear X T hk hk₁
  have hda : d ≠ a := by rintro rfl; rw [ha] at hd; simp [accObj, accDict] at hd
  k_steps
  unfold Hold
  refine acc_slice F' X' N' (.head _) (.int _ _) .none ?_ (hsz := by rw [sizeLine_eq]; omega)
  intro h₂ F₂ N₂
  clear F' N'
  k_steps
  (with_reducible rename News _ _ _ _ => N₃)
  (with_reducible rename Fr _ _ _ _ => F₃)
  rename _ ∧ _ => l1
  unfold Hold
  have N₄ := news_sub (l' := (a, accObj d its n) :: [(_, W.listOf #[] 0), (d, accDict hs t1 t2 n2)]) N₃ (by
    intro p hp
    rcases List.mem_cons.mp hp with rfl | hp
    · exact .tail _ (.tail _ (.head _))
    rcases List.mem_cons.mp hp with rfl | hp
    · exact .head _
    rw [List.mem_singleton.mp hp]
    exact .tail _ (.tail _ (.tail _ (.head _))))
  refine acc_setslice F₃ X' N₄ ?_ (.head _) hi hz ?_
  · intro p hp
    rcases List.mem_cons.mp hp with rfl | hp
    · exact fun q => Nat.ne_of_gt l1.2.1 q
    · rw [List.mem_singleton.mp hp]; exact hda
  intro n' h₄ F₄ N₅
  clear F₃ N₃ N₄
  k_steps
  all_goals
    (with_reducible rename News _ _ _ _ => NN)
    (with_reducible rename Fr _ _ _ _ => FF)
    refine h _ n' _ _ (NN.get (by k_mem)) ?_
    intro b o hb e
    by_cases q : b = d
    · subst q
      rw [hd] at e
      rw [← Option.some.inj e]
      exact NN.get (by k_mem)
    · exact FF.keep _ _ (hg ▸ get_hide e (by simp [hb, q]))
end Mine
end

section
open PySem PySem.W PyProof.Rows PySem.Calls
namespace Mine
/-- a code object and its growing table, the table's whole object told -/
noncomputable def IsCodeT (h : Heap) (c P : Addr) (ps : Array Value) : Prop := h.IsCode c P ps ∧ h.TableAt c P ps
theorem IsCodeT.keeps {h h' : Heap} {c P : Addr} {ps : Array Value} (x : IsCodeT h c P ps) (k : ∀ b o, h.get? b = some o → h'.get? b = some o) : IsCodeT h' c P ps := ⟨x.1.keeps k, x.2.keeps k⟩
theorem IsCodeT.push {h : Heap} {c P : Addr} {ps : Array Value} (x : IsCodeT h c P ps) (o : Obj) : IsCodeT (h.push o) c P ps := ⟨x.1.push o, x.2.push o⟩
theorem IsCodeT.lt {h : Heap} {c P : Addr} {ps : Array Value} (x : IsCodeT h c P ps) : c < h.objs.size ∧ P < h.objs.size := x.1.lt
theorem IsCodeT.step {h h' : Heap} {c P : Addr} {ps : Array Value} (x : IsCodeT h c P ps) (hc : ∀ o, h.get? c = some o → h'.get? c = some o) (hP : ∀ o, h.get? P = some o → h'.get? P = some o) : IsCodeT h' c P ps := by
  obtain ⟨⟨o, vs, file, tf, flags, tg, inF, text, tt, op, a, r1, r2, r3, r4, r5, r6, b, r⟩, ⟨o2, vs2, b1, b2⟩, b3⟩ := x
  exact ⟨⟨o, vs, file, tf, flags, tg, inF, text, tt, op, hc _ a, r1, r2, r3, r4, r5, r6, hP _ b, r⟩, ⟨o2, vs2, hc _ b1, b2⟩, hP _ b3⟩
theorem genexprCodeT {M : Model} {A : Around} {E : Value → Shared → Prop} {s : Shared} {env : Env} {c P : Addr} {ps : Array Value} {pos : Pos} {qualname : Str} {scope : Scope} {Q : Value → Shared → Prop} (hc : env.code = .ref c) (hok : IsCodeT s.heap c P ps)
    (hQ : ∀ code h' tk ps', Heap.ExtBut P s.heap h' → IsCodeT h' c P ps' → Q code { s with heap := h', toks := tk }) :
    wpAny M A (genexprCode env pos qualname scope) Q E s := by
  cases hf : codeAmong pos ps.toList with
  | some c' => exact wpAny_genexprCode_hit hc hok.1 hf (hQ c' s.heap s.toks ps (fun _ _ _ e => e) hok)
  | none => exact wpAny_genexprCodeX hc hok.1 hok.2 hf fun c' h' tk hx _ _ h1 _ h2 _ => hQ _ h' tk _ hx ⟨h1, h2⟩
end Mine
end

section
open PySem PySem.W PyProof.Rows PySem.Calls
namespace Mine
section
variable {w : World} {h : Heap}
theorem acc_iterL (X : (hd.heap_1 w.params).In h) : Looks (M0 w) h (typeLookup (.ref 108) "__iter__") (some (.builtin "list.__iter__")) := Looks.of_peek X (by kernel_rfl)
end
theorem kind_liter : builtinKind "list.__iter__" = some .slot := by decide +kernel
theorem split_liter : splitId "list.__iter__" = some ("list", "__iter__") := by decide +kernel
section
variable {w : World} {A : Around} {E : Value → Shared → Prop} {s : Shared} {a d I : Addr} {its : Array Value} {n i : Nat}
theorem acc_iter {Q : Value → Shared → Prop} (X : (hd.heap_1 w.params).In s.heap) (ha : s.heap.get? a = some (accObj d its n))
    (h : Q (.ref s.heap.objs.size) { s with heap := s.heap.push { cls := .type "list_iterator", data := .fields #[.ref a, .int 0 0] } }) : wpAny (M0 w) A (pyIter (.ref a)) Q E s := by
  unfold pyIter
  refine wpAny_bind ?_
  unfold specialOf
  refine wpAny_bind ((acc_type ha).here ((acc_iterL X).here ?_))
  dsimp only
  refine wpAny_bind ?_
  simp only [callSpecialIfBoundUnlessNone?, bindSpecialIfBound?]
  refine wpAny_holding (wpAny_bind (wpAny_bind ?_))
  unfold specialOf
  refine wpAny_bind ((acc_type ha).here ((acc_iterL X).here ?_))
  dsimp only
  simp only [slot_list_iter.bind]
  refine wpAny_bind (wpAny_askSetting (wpAny_ite ?_))
  have fin : ∀ (Q' : Option Value → Shared → Prop), Q' (some (.ref s.heap.objs.size)) { s with heap := s.heap.push { cls := .type "list_iterator", data := .fields #[.ref a, .int 0 0] } } →
      wpAny (M0 w) A (call (.builtin "list.__iter__") [.ref a] >>= fun v => pure (some v)) Q' E s := by
    intro Q' q
    refine wpAny_bind (call_slot_sub slot_list_iter.plain entry_list_iter kind_liter split_liter (acc_isL X ha) (args_list_iter _) ?_)
    show wpAny _ _ (do ret (← newFields "list_iterator" [.ref a, rawInt 0])) _ _ s
    exact wpAny_bind (wpAny_newObj_type (wpAny_pure ⟨_, rfl, wpAny_pure q⟩))
  have tl : wpAny (M0 w) A (do
      let it ← (specialOf (.ref s.heap.objs.size) "__next__")
      match it with
      | none => (do rule "iter.non-iterator"; raiseError "TypeError" s!"iter() returned non-iterator of type '{← typeNameOf (.ref s.heap.objs.size)}'")
      | some _ => pure (.ref s.heap.objs.size)) Q E { s with heap := s.heap.push { cls := .type "list_iterator", data := .fields #[.ref a, .int 0 0] } } := by
    refine wpAny_bind (wpAny_specialOf (T := "list_iterator") ⟨_, Heap.get?_push_size _ rfl, rfl⟩ slot_listiter_next.lookup ?_)
    exact wpAny_pure h
  have fin' : ∀ refuse : Sem Value, ∀ (Q' : Option Value → Shared → Prop), Q' (some (.ref s.heap.objs.size)) { s with heap := s.heap.push { cls := .type "list_iterator", data := .fields #[.ref a, .int 0 0] } } → wpAny (M0 w) A (if (Value.builtin "list.__iter__" == Value.none) = true then (refuse >>= fun v => pure (some v)) else (call (.builtin "list.__iter__") [.ref a] >>= fun v => pure (some v))) Q' E s := by
    intro refuse Q' q
    rw [if_neg (show ¬ ((Value.builtin "list.__iter__" == Value.none) = true) by rw [builtin_beq_none]; exact Bool.false_ne_true)]
    exact fin Q' q
  split
  · exact wpAny_bind (wpAny_pure (wpAny_pure (fin' _ _ tl)))
  · exact wpAny_tryCatch (wpAny_bind (wpAny_pure (wpAny_pure (fin' _ _ tl))))
theorem acc_next {x : Value} {Q : Option Value → Shared → Prop} (hit : s.heap.IsListIter I a i) (ha : s.heap.get? a = some (accObj d its n)) (hx : its[i]? = some x)
    (hQ : ∀ h', h'.IsListIter I a (i + 1) → Heap.SameBut I s.heap h' → Q (some x) { s with heap := h' }) : wpAny (M0 w) A (pyNext (.ref I)) Q E s := by
  obtain ⟨o, ho, hc, hd⟩ := id hit
  unfold pyNext
  refine wpAny_bind (wpAny_attempt (wpAny_callSpecial?_slot (name := Str.ofString "__next__") hit.typeIs slot_listiter_next (wpAny_call_entry slot_listiter_next hit.typeIs entry_listiter_next ?_ (args_listiter_next _))))
  show wpAny _ _ (field (.ref I) 0 >>= _) _ _ s
  refine wpAny_bind (wpAny_field ho hd (x := .ref a) rfl ?_)
  show wpAny _ _ (if (Value.ref a == Value.none) = true then _ else _) _ _ s
  rw [if_neg (show ¬ ((Value.ref a == Value.none) = true) from Bool.false_ne_true)]
  show wpAny _ _ (field (.ref I) 1 >>= _) _ _ s
  refine wpAny_bind (wpAny_field ho hd (x := .int i 0) rfl ?_)
  show wpAny _ _ (seqItems? (.ref a) >>= _) _ _ s
  refine wpAny_bind (wpAny_seqItems ha rfl ?_)
  simp only [Int.toNat_natCast, hx]
  refine wpAny_bind (wpAny_setField ho hd (by simp) (wpAny_pure ⟨x, rfl, wpAny_pure (hQ _ ?_ (Heap.SameBut.update ..))⟩))
  exact ⟨_, Heap.get?_update_self _ ho (Obj.isFreed_of_fields (Obj.data_mapFields hd _)), (Obj.cls_mapFields ..).trans hc, by
    rw [Obj.data_mapFields hd]; simp [rawInt]⟩
theorem acc_stop {Q : Option Value → Shared → Prop} (hh : A.handled = none) (hit : s.heap.IsListIter I a i) (ha : s.heap.get? a = some (accObj d its n)) (hx : its[i]? = none)
    (hQ : ∀ h', Heap.ExtBut I s.heap h' → Q none { s with heap := h' }) : wpAny (M0 w) A (pyNext (.ref I)) Q E s := by
  obtain ⟨o, ho, hc, hd⟩ := id hit
  unfold pyNext
  refine wpAny_bind (wpAny_attempt (wpAny_callSpecial?_slot (name := Str.ofString "__next__") hit.typeIs slot_listiter_next (wpAny_call_entry slot_listiter_next hit.typeIs entry_listiter_next ?_ (args_listiter_next _))))
  show wpAny _ _ (field (.ref I) 0 >>= _) _ _ s
  refine wpAny_bind (wpAny_field ho hd (x := .ref a) rfl ?_)
  show wpAny _ _ (if (Value.ref a == Value.none) = true then _ else _) _ _ s
  rw [if_neg (show ¬ ((Value.ref a == Value.none) = true) from Bool.false_ne_true)]
  show wpAny _ _ (field (.ref I) 1 >>= _) _ _ s
  refine wpAny_bind (wpAny_field ho hd (x := .int i 0) rfl ?_)
  show wpAny _ _ (seqItems? (.ref a) >>= _) _ _ s
  refine wpAny_bind (wpAny_seqItems ha rfl ?_)
  simp only [Int.toNat_natCast, hx]
  refine wpAny_bind (wpAny_rule (wpAny_bind (wpAny_setField ho hd (by simp) ?_)))
  show wpAny _ _ (newExc (.type "StopIteration") [] >>= _) _ _ _
  refine wpAny_bind ?_
  simp only [newExc, newTuple]
  refine wpAny_bind (wpAny_newObj_type ?_ (by size_fits))
  refine wpAny_bind (m := firstArgMember _ _) (wpAny_of_eq (a := Value.none) (by first | rfl | (simp only [firstArgMember]; rfl)) ?_)
  refine wpAny_newObj_type ?_ (by size_fits)
  simp only [raiseNew]
  refine wpAny_bind (wpAny_handled ?_)
  rw [show A.in1.handled = none from hh]
  refine wpAny_bind (wpAny_pure (wpAny_throw ?_))
  refine wpAny_bind (wpAny_isInstance (T := "StopIteration") (b := true) ⟨_, Heap.get?_push_size _ rfl, rfl⟩ isSubtype_stop ?_)
  exact wpAny_pure (hQ _ (((Heap.SameBut.update ..).extBut.push _).push _))
end
/-- the items of an accumulator that the walk reads: pairs of texts -/
theorem acc_walks {w : World} {A : Around} (hh : A.handled = none) (I a d : Addr) (n : Nat) (hne : a ≠ I) (its : Array Value) (Ts : Nat → Addr) (vals : Nat → Array Value)
    (hit : ∀ j, j < its.size → its[j]? = some (.ref (Ts j))) (hTI : ∀ j, j < its.size → Ts j ≠ I) :
    WalksU PySem.Challenge.rw_re0035_01.row.prog w A I (I :: a :: (List.range its.size).map Ts) [I] its.size (fun j v => j < its.size ∧ v = vals j)
      (fun j h => h.IsListIter I a j ∧ h.get? a = some (accObj d its n) ∧ ∀ k, k < its.size → h.IsTuple (Ts k) (vals k))
      (fun j T h => (j < its.size ∧ T = Ts j) ∧ h.IsListIter I a (j + 1) ∧ h.get? a = some (accObj d its n) ∧ ∀ k, k < its.size → h.IsTuple (Ts k) (vals k)) where
  sub := fun b hb => by simp at hb; simp [hb]
  frame := fun _ _ _ st hk => ⟨st.1.at fun o e => hk I (by simp) o e, hk a (by simp) _ st.2.1,
    fun k hk' => (st.2.2 k hk').at fun o e => hk (Ts k) (List.mem_cons_of_mem _ (List.mem_cons_of_mem _ (List.mem_map.mpr ⟨k, List.mem_range.mpr hk', rfl⟩))) o e⟩
  item := fun i s Q E hi st hQ => by
    refine acc_next st.1 st.2.1 (x := .ref (Ts i)) (hit i hi) fun h' hit' hs' => ?_
    have tup : ∀ k, k < its.size → h'.IsTuple (Ts k) (vals k) := fun k hk' => (st.2.2 k hk').extBut hs'.extBut (hTI k hk')
    exact hQ (Ts i) (vals i) h' s.toks ⟨hi, rfl⟩ (tup i hi) ⟨⟨hi, rfl⟩, hit', hs'.extBut _ _ hne st.2.1, tup⟩ fun b o hb e => hs'.extBut b o (fun h => hb (by simp [h])) e
  go := fun _ _ _ _ _ s Q _ hm hQ => wpAny_letOwnedTupleGo_listiter hm.2.1 (hQ s.heap hm.2 fun _ _ _ e => e)
  apart := fun j T _ hm hmem => by
    rcases List.mem_cons.mp hmem with e | e
    · exact hTI j hm.1.1 (hm.1.2 ▸ e)
    · cases e
  done := fun s Q E st hQ => acc_stop hh st.1 st.2.1 (by simp) fun h' he' => hQ h' s.toks fun b o hb e => he' b o (fun h => hb (by simp [h])) e
  self := fun _ _ _ _ st hQ => wpAny_pyIter_listiter st.1 hQ
theorem passing_all (n : Nat) : passing (fun _ => true) n 0 = List.range n := by simp [passing]
/-- a generator expression over an accumulator's pairs, made -/
theorem acc_genexp {w : World} {A : Around} {E : Value → Shared → Prop} {h₀ : Heap} {mg mb : Str → Option Value} {p : Program} {loose : List Str} {mean : ExcName → Option Value} {s : Shared} {a d c P : Addr} {its : Array Value} {n : Nat} {Ts : Nat → Addr} {vals : Nat → Array Value} {ps : Array Value} {F : Nat → Value → Prop}
    {env : Env} {elt iter : Expr} {xa xb : Str} {pa pb pt : Pos} {kt : Nat} {scope : Scope} {pos : Pos} {Q : Value → Shared → Prop}
    (hh : A.handled = none) (X : (hd.heap_1 w.params).In h₀) (T : Top p loose mean mg mb h₀) (hk : ∀ b o, h₀.get? b = some o → s.heap.get? b = some o) (hP : h₀.get? P = none) (G : AllBare s.gens) (ha : s.heap.get? a = some (accObj d its n)) (hC : IsCodeT s.heap c P ps) (hcode : env.code = .ref c) (hgl : env.globals = mainGlobals)
    (hit : ∀ j, j < its.size → its[j]? = some (.ref (Ts j))) (hT : ∀ j, j < its.size → s.heap.IsTuple (Ts j) (vals j)) (hv : ∀ j, j < its.size → ∃ va vb, vals j = #[va, vb])
    (hco : scope.isCoroutine = false) (hclos : closureFor scope env = pure []) (hcell : ∀ y ∈ scope.names, y.2 ≠ .cell) (h0 : scope.names.lookup (".0" : Str) = some NameKind.local)
    (hxa : scope.names.lookup xa = some .local) (hxb : scope.names.lookup xb = some .local) (hab : xa ≠ xb) (hkind : scope.kind = .function) (hroom : A.depth < recursionLimit)
    (hiter : ∀ Q', Q' (.ref a) s → wpAny (M0 w) A (eval iter env) Q' E s)
    (helt : ∀ (C : Addr) (code : Value) (A' : Around) E' i va vb (t : Shared) m₂, A'.handled = none → i < its.size → vals i = #[va, vb] → t.heap.Ns C m₂ → m₂ xa = some va → m₂ xb = some vb → (∀ b o, h₀.get? b = some o → t.heap.get? b = some o) →
      wpAny (M0 w) A' (eval elt (genEnv scope [] C code builtinsNs env)) (fun y s₃ => F i y ∧ Keeps t s₃) E' t)
    (h : ∀ aG (s₅ : Shared), AllBare s₅.gens → s₅.os = s.os → s₅.drawn = s.drawn → (∀ b o, b ≠ P → s.heap.get? b = some o → s₅.heap.get? b = some o) → (∃ ps', IsCodeT s₅.heap c P ps') → Gen PySem.Challenge.rw_re0035_01.row.prog w A (s.heap.objs.size - 1) aG (List.range its.size).length (fun j y => ∃ i, (List.range its.size)[j]? = some i ∧ F i y) s₅ → Q (.ref aG) s₅)
    (hs : ∀ x, genFold iter env x = pure x) :
    wpAny (M0 w) A (eval (.GeneratorExp elt [⟨.Tuple [.Name xa pa, .Name xb pb] kt pt, iter, [], 0⟩] scope pos) env) Q E s := by
  have hz : 0 < s.heap.objs.size := Nat.lt_of_le_of_lt (Nat.zero_le _) (Heap.lt_size ha)
  have hTlt : ∀ j, j < its.size → Ts j < s.heap.objs.size := fun j hj => by obtain ⟨_, e, _⟩ := hT j hj; exact Heap.lt_size e
  have hPP : ∀ o q k, s.heap.get? P = some o → o.data ≠ .seq q k := by
    obtain ⟨_, _, _, _, _, _, _, _, _, op, _, _, _, _, _, _, _, hop, hpd, _, _⟩ := hC.1
    intro o q k e e2
    rw [hop] at e
    rw [← Option.some.inj e, hpd] at e2
    cases e2
  have hPa : a ≠ P := by rintro rfl; exact hPP _ _ _ ha rfl
  have hPT : ∀ j, j < its.size → Ts j ≠ P := by
    intro j hj e
    obtain ⟨o, ho, _, k, hdat⟩ := hT j hj
    rw [e] at ho
    exact hPP _ _ _ ho hdat
  refine wpAny_GeneratorExp_walksQT hh hco hclos hcell h0 hxa hxb hab hkind hroom (hiter _ (acc_iter (X.keeps hk) ha ⟨(T.nolimit.keeps hk).push _, ?_⟩)) hs
  refine genexprCodeT hcode (hC.push _) ?_
  intro code h₃ tk₃ ps' hx₃ hC₃
  have k3 : ∀ b o, b ≠ P → s.heap.get? b = some o → h₃.get? b = some o := fun b o hb e => hx₃ b o hb (Heap.get?_push_of_some _ e)
  have k03 : ∀ b o, h₀.get? b = some o → h₃.get? b = some o := fun b o e => k3 b o (by rintro rfl; rw [hP] at e; cases e) (hk b o e)
  have hge : s.heap.objs.size < h₃.objs.size := Heap.lt_size (hx₃ _ _ (Nat.ne_of_gt hC.lt.2) (Heap.get?_push_size _ rfl))
  rw [hgl]
  obtain ⟨bm, ob, M⟩ := bmod_of_top T
  have M₃ := M.keeps k03
  refine wpAny_builtinsFor M₃.ns M₃.name M₃.ne M₃.obj M₃.cls M₃.dict M₃.data ?_
  refine ⟨s.heap.objs.size, _, _, _, _, _, _, (fun _ => true), F, rfl, (fun A' hA => acc_walks hA s.heap.objs.size a d n (Nat.ne_of_lt (Heap.lt_size ha)) its Ts vals hit fun j hj => Nat.ne_of_lt (hTlt j hj)), ?_, ?_, ?_, T.nolimit.keeps k03, ?_, ?_, ?_⟩
  · rintro i v ⟨hi, rfl⟩
    exact hv i hi
  · exact ⟨⟨_, hx₃ _ _ (Nat.ne_of_gt hC.lt.2) (Heap.get?_push_size _ rfl), rfl, rfl⟩, k3 _ _ hPa ha, fun k hk' => (hT k hk').at fun o e => k3 _ _ (hPT k hk') e⟩
  · intro b hb
    refine Nat.lt_of_le_of_lt ?_ hge
    rcases List.mem_cons.mp hb with rfl | hb
    · exact Nat.le_refl _
    rcases List.mem_cons.mp hb with rfl | hb
    · exact Nat.le_of_lt (Heap.lt_size ha)
    obtain ⟨k, hk', rfl⟩ := List.mem_map.mp hb
    exact Nat.le_of_lt (hTlt k (List.mem_range.mp hk'))
  · intro hm
    have e := List.mem_singleton.mp hm
    have : cStatics < s.heap.objs.size := let ⟨_, hn, _⟩ := T.nolimit.keeps hk; hn.lt
    rw [e] at this
    exact Nat.lt_irrefl _ this
  · intro href hhref
    refine ⟨fun A' E' i va vb s₂ m₂ hA hP' hn hma hmb hkp => wpAny_pure ⟨rfl, s₂.heap, s₂.toks, rfl, fun _ _ e => e⟩, fun A' E' i va vb s₂ m₂ hA hP' _ hn hma hmb hkp => ?_⟩
    refine helt _ code A' E' i va vb s₂ m₂ hA hP'.1 hP'.2.symm hn hma hmb fun b o e => ?_
    exact hkp b (List.mem_range.mpr (Heap.lt_size (k03 b o e))) (fun hm => by
      have e2 := List.mem_singleton.mp hm
      exact Nat.lt_irrefl _ (e2 ▸ Heap.lt_size (hk b o e))) o (hhref b o (k03 b o e))
  · intro aG h₅ tk gs hgb hag hsz₅ hk₅ W hat
    refine h aG _ (G.push hgb) rfl rfl (fun b o hb e => hk₅ b o (k3 b o hb e)) ⟨ps', hC₃.keeps hk₅⟩ ?_
    refine ⟨_, _, _, _, passing_all its.size ▸ W, hat, (fun i s' st => st.1.typeIs), List.mem_cons_self, ?_, ?_⟩
    · intro b hb
      show b < h₅.objs.size
      rw [hsz₅]
      rcases List.mem_cons.mp hb with rfl | hb
      · exact Nat.lt_succ_self _
      · rcases List.mem_cons.mp hb with rfl | hb
        · exact Nat.lt_succ_of_lt hag
        · exact Nat.lt_succ_of_lt (Nat.lt_trans (List.mem_range.mp hb) hag)
    · intro b hb
      rcases List.mem_cons.mp hb with rfl | hb
      · exact Nat.lt_of_le_of_lt (Nat.sub_le _ _) hge
      · rw [List.mem_singleton.mp hb]; exact Nat.sub_lt hz Nat.one_pos
end Mine
end

section
open PySem PySem.W PyProof.Rows PySem.Calls
namespace Mine
local macro_rules | `(tactic| walk_at "no such key 0") => `(tactic| fail)
noncomputable def scopeS : Scope := { kind := ScopeKind.function, names := [(Str.ofString ".0", NameKind.local), (Str.ofString "fws", NameKind.local), (Str.ofString "part", NameKind.local), (Str.ofString "EMPTYSTRING", NameKind.globalImplicit)], isGenerator := true, isCoroutine := false }
theorem glob_K {w : World} {h₀ : Heap} {A : Around} {E : Value → Shared → Prop} {s : Shared} {mg mb : Str → Option Value} {p : Program} {loose : List Str} {mean : ExcName → Option Value} {x : Str} {pos : Pos} {v : Value} {Q : Value → Shared → Prop} {env : Env} (X : (hd.heap_1 w.params).In h₀) (T : Top p loose mean mg mb h₀) (hk : ∀ b o, h₀.get? b = some o → s.heap.get? b = some o)
    (e : nsIn (hd.heap_1 w.params) mainGlobals x = some (some v)) (h : Q v s) (hg : env.globals = mainGlobals) (hf : env.scope.kind = .function) (hx : env.kindOf x = some .globalImplicit) (hd : (x == ("__debug__" : Str)) = false) : wpAny (M0 w) A (eval (.Name x pos) env) Q E s :=
  Name_function_global hf hx (loadGlobal_global (env := env) (by rw [hg]; exact T.g.keeps hk) (mg_of X T.g e) h) hd
theorem glob_B {w : World} {h₀ : Heap} {A : Around} {E : Value → Shared → Prop} {s : Shared} {mg mb : Str → Option Value} {p : Program} {loose : List Str} {mean : ExcName → Option Value} {x : Str} {pos : Pos} {v : Value} {Q : Value → Shared → Prop} {env : Env} (X : (hd.heap_1 w.params).In h₀) (T : Top p loose mean mg mb h₀) (hk : ∀ b o, h₀.get? b = some o → s.heap.get? b = some o)
    (e : nsIn (hd.heap_1 w.params) mainGlobals x = some none) (hv : bootBuiltins x = some v) (hn : x ≠ "__name__") (h : Q v s) (hg : env.globals = mainGlobals) (hb : env.builtins = builtinsNs) (hf : env.scope.kind = .function) (hx : env.kindOf x = some .globalImplicit) (hd : (x == ("__debug__" : Str)) = false) : wpAny (M0 w) A (eval (.Name x pos) env) Q E s :=
  Name_function_global hf hx (loadGlobal_builtin (env := env) (by rw [hg]; exact T.g.keeps hk) (mg_none_of X T.g e) (by rw [hb]; exact T.b.keeps hk) ((T.builtins x hn).trans hv) h) hd
theorem str_elt : ∀ {w : World} {h₀ : Heap} {A : Around} {E : Value → Shared → Prop} {s : Shared} {mg mb : Str → Option Value} {p : Program} {loose : List Str} {mean : ExcName → Option Value} (X : (hd.heap_1 w.params).In h₀) (T : Top p loose mean mg mb h₀) (hk : ∀ b o, h₀.get? b = some o → s.heap.get? b = some o)
    {C : Addr} {code : Value} {m : Str → Option Value} {env : Env} {f q : Str} {tf tq : Tok} (hgl : env.globals = mainGlobals) (hn : s.heap.Ns (genEnv scopeS [] C code builtinsNs env).locals m) (h1 : m (Str.ofString "fws") = some (.str f tf)) (h2 : m (Str.ofString "part") = some (.str q tq)) (hf : f.length ≤ 1) (hq : q.length ≤ 1),
    wpAny (model PySem.Challenge.rw_re0035_01.row.prog w) A (eval (((Expr.Name (Str.ofString "EMPTYSTRING") { line := 42, col := 33, endLine := 42, endCol := 44 }).Attribute (Str.ofString "join") { line := 42, col := 33, endLine := 42, endCol := 49 }).Call [Expr.Tuple [Expr.Name (Str.ofString "fws") { line := 42, col := 51, endLine := 42, endCol := 54 }, Expr.Name (Str.ofString "part") { line := 42, col := 56, endLine := 42, endCol := 60 }] 0 { line := 42, col := 50, endLine := 42, endCol := 61 }] [] { line := 42, col := 33, endLine := 42, endCol := 62 }) (genEnv scopeS [] C code builtinsNs env))
      (fun y s₃ => (∃ t, y = .str (Txt.join (Str.ofString "") [f, q]) t) ∧ Keeps s s₃) E s := by
  intro w h₀ A E s mg mb p loose mean X T hk C code m env f q tf tq hgl hn h1 h2 hf hq
  with_unfolding_all refine MethodCall_ ?_
  refine glob_K (v := .str (Str.ofString "") 208) X T hk (by kernel_rfl) ?_ hgl rfl rfl (by decide)
  refine GM.join ?_
  with_unfolding_all refine callWith_method1 ?_
  with_unfolding_all refine args_cons ?_
  refine wpAny_Tuple ?_
  with_unfolding_all refine args_cons (ldG hn h1 ?_)
  with_unfolding_all refine args_cons (ldG hn h2 ?_)
  refine args_nil ⟨by simp [sizeLine_eq], ?_⟩
  refine args_nil ?_
  refine join_tupleC ⟨_, Heap.get?_push_size _ rfl, rfl, _, rfl⟩ (.cons _ _ (.cons _ _ .nil)) (by decide) (by simp; omega) ?_
  intro t' k
  exact ⟨⟨t', rfl⟩, _, _, rfl, fun b o e => Heap.get?_push_of_some _ e⟩
/-- the accumulator's items are pairs of short texts -/
noncomputable def Pairs (h : Heap) (its : Array Value) (ps : List (Str × Str)) : Prop :=
  its.size = ps.length ∧ ∀ (j : Nat) (p : Str × Str), ps[j]? = some p → p.1.length ≤ 1 ∧ p.2.length ≤ 1 ∧ ∃ (T : Addr) (tf tq : Tok) (n : Nat), its[j]? = some (Value.ref T) ∧ h.get? T = some { cls := .type "tuple", data := .seq #[.str p.1 tf, .str p.2 tq] n }
theorem Pairs.keeps {h h' : Heap} {its : Array Value} {ps : List (Str × Str)} (x : Pairs h its ps) (hk : ∀ b o, h.get? b = some o → h'.get? b = some o) : Pairs h' its ps :=
  ⟨x.1, fun j p e => let ⟨a, b, T, tf, tq, n, e1, e2⟩ := x.2 j p e; ⟨a, b, T, tf, tq, n, e1, hk _ _ e2⟩⟩
theorem Pairs.split {h : Heap} {its : Array Value} {ps : List (Str × Str)} (x : Pairs h its ps) : ∃ (Ts : Nat → Addr) (vals : Nat → Array Value), (∀ j, j < its.size → its[j]? = some (.ref (Ts j))) ∧ (∀ j, j < its.size → h.IsTuple (Ts j) (vals j)) ∧
    (∀ j, j < its.size → ∃ p tf tq, ps[j]? = some p ∧ p.1.length ≤ 1 ∧ p.2.length ≤ 1 ∧ vals j = #[.str p.1 tf, .str p.2 tq]) := by
  have at' : ∀ j, j < its.size → ∃ T v, its[j]? = some (.ref T) ∧ h.IsTuple T v ∧ ∃ p tf tq, ps[j]? = some p ∧ p.1.length ≤ 1 ∧ p.2.length ≤ 1 ∧ v = #[.str p.1 tf, .str p.2 tq] := by
    intro j hj
    have hj' : j < ps.length := x.1 ▸ hj
    obtain ⟨a, b, T, tf, tq, n, e1, e2⟩ := x.2 j ps[j] (List.getElem?_eq_getElem hj')
    exact ⟨T, _, e1, ⟨_, e2, rfl, _, rfl⟩, ps[j], tf, tq, List.getElem?_eq_getElem hj', a, b, rfl⟩
  refine ⟨fun j => if hj : j < its.size then Classical.choose (at' j hj) else 0, fun j => if hj : j < its.size then Classical.choose (Classical.choose_spec (at' j hj)) else #[], ?_, ?_, ?_⟩
  · intro j hj; simp only [hj, dif_pos]; exact (Classical.choose_spec (Classical.choose_spec (at' j hj))).1
  · intro j hj; simp only [hj, dif_pos]; exact (Classical.choose_spec (Classical.choose_spec (at' j hj))).2.1
  · intro j hj; simp only [hj, dif_pos]; exact (Classical.choose_spec (Classical.choose_spec (at' j hj))).2.2
noncomputable def pairText (ps : List (Str × Str)) : Str := Txt.join (Str.ofString "") (ps.map fun p => Txt.join (Str.ofString "") [p.1, p.2])
theorem rangeMap {its : Array Value} {ps : List (Str × Str)} (e : its.size = ps.length) : (List.range (List.range its.size).length).map (fun j => Txt.join (Str.ofString "") [(ps.getD j (Str.empty, Str.empty)).1, (ps.getD j (Str.empty, Str.empty)).2]) = ps.map fun p => Txt.join (Str.ofString "") [p.1, p.2] := by
  rw [List.length_range, e]
  conv => rhs; rw [← range_getD ps (Str.empty, Str.empty)]
  rw [List.map_map]; rfl
theorem two_len (p : Str × Str) (h1 : p.1.length ≤ 1) (h2 : p.2.length ≤ 1) : (Txt.join (Str.ofString "") [p.1, p.2]).length ≤ 2 := by
  have h : (Txt.join (Str.ofString "") [p.1, p.2]).length ≤ (([p.1, p.2] : List Str).map (·.length)).sum + ([p.1, p.2] : List Str).length * (Str.ofString "").length := by
    unfold Txt.join
    rw [StrLaws.glued_eq_join]
    exact StrLaws.join_length_le _ _
  have e : (Str.ofString "").length = 0 := by decide
  rw [e] at h
  simp at h
  omega
theorem pairText_ok (ps : List (Str × Str)) (h : ∀ p ∈ ps, p.1.length ≤ 1 ∧ p.2.length ≤ 1) (hz : ps.length ≤ 1000) : JoinOk (Str.ofString "") (ps.map fun p => Txt.join (Str.ofString "") [p.1, p.2]) = true := by
  refine joinOk_of_weight ?_ (by decide)
  have : ((ps.map fun p => Txt.join (Str.ofString "") [p.1, p.2]).map (·.length)).sum ≤ 2 * ps.length := by
    clear hz
    induction ps with
    | nil => simp
    | cons p r ih =>
      have a := two_len p (h p (.head _)).1 (h p (.head _)).2
      have b := ih fun q hq => h q (.tail _ hq)
      simp only [List.map_cons, List.sum_cons, List.length_cons] at b ⊢
      omega
  rw [List.length_map]
  omega
theorem join_rowsD {prog : Program} {w : World} {A : Around} {E : Value → Shared → Prop} {s : Shared} {K a : Addr} {n : Nat} {F : Nat → Value → Prop} {Q : Value → Shared → Prop} {sep : Str} {t : Tok} (G : AllBare s.gens) (X : Gen prog w A K a n F s) (tx : Nat → Str) (htx : ∀ j v, F j v → ∃ u, v = .str (tx j) u)
    (hok : JoinOk sep ((List.range n).map tx) = true)
    (hQ : ∀ (s' : Shared) t', AllBare s'.gens → s'.os = s.os → s'.drawn = s.drawn → (∀ b o, b ≤ K → s.heap.get? b = some o → s'.heap.get? b = some o) → Q (.str (Txt.join sep ((List.range n).map tx)) t') s')
    (hsz : n ≤ sizeLine) : wpAny (model prog w) A (call (.builtin "str.join") [.str sep t, .ref a]) Q E s := by
  obtain ⟨fp, wr, g, St, W, hst, hT, ha, hfp, hwr⟩ := X
  refine SC.joinGen W.in4_2 hT hst hfp ha (fun j v hv => let ⟨u, e⟩ := htx j v hv; ⟨_, u, e⟩) (fun s' lt hm hacc => ?_) hsz
  have hl : lt.map (·.1) = (List.range n).map tx := by
    have hsz : lt.length = n := by simpa [strValues] using hacc.1
    refine List.ext_getElem (by simp [hsz]) fun j h1 h2 => ?_
    have hj : j < lt.length := by simpa using h1
    obtain ⟨u, hv⟩ := htx j _ (hacc.2 j (.str lt[j].1 lt[j].2) (by simp [strValues, List.getElem?_eq_getElem hj]))
    injection hv with h3 _
    simp [h3]
  rw [hl]
  have g1 : AllBare s'.gens := G.movedS hm
  exact ⟨hok, fun t' k => hQ { s' with toks := k } t' g1 hm.os hm.drawn fun b o hb e => hm.heap b o (fun q => Nat.lt_irrefl _ (Nat.lt_of_lt_of_le (hwr b q) hb)) e⟩
local macro_rules | `(tactic| walk_at "eval GeneratorExp") => `(tactic| refine hold ?_)
local macro_rules | `(tactic| walk_at "call builtin:str.join") => `(tactic| refine hold ?_)
theorem str_c : ∀ {w : World} {dp u : Nat} {fr : Option (List Env)} {gd : Option (List Code)} {h₀ : Heap} {mg mb : Str → Option Value} {s : Shared} {p : Program} {loose : List Str} {mean : ExcName → Option Value}
    {Q E : Value → Shared → Prop} (X : (hd.heap_1 w.params).In h₀) (T : Top p loose mean mg mb h₀) (hk : ∀ b o, h₀.get? b = some o → s.heap.get? b = some o) (hroom : dp < 600)
    (a d : Addr) (its : Array Value) (n n2 : Nat) (hs : Int) (t1 t2 : Tok) (ps : List (Str × Str)) (qs : Array Value) (ha : s.heap.get? a = some (accObj d its n)) (hd : s.heap.get? d = some (accDict hs t1 t2 n2)) (hna : h₀.get? a = none) (hnd : h₀.get? d = none) (hz : its.size ≤ 1000) (hp : Pairs s.heap its ps)
    (hC : IsCodeT s.heap 81 77 qs) (h77 : h₀.get? 77 = none) (G : AllBare s.gens)
    (h : ∀ t (s' : Shared), AllBare s'.gens → s'.os = s.os → s'.drawn = s.drawn → (∀ b o, b ≠ 77 → s.heap.get? b = some o → s'.heap.get? b = some o) → (∃ qs', IsCodeT s'.heap 81 77 qs') → Q (.str (pairText ps) t) s'),
    wpAny (model PySem.Challenge.rw_re0035_01.row.prog w) ⟨none, dp, fr, gd, u⟩ (call (.ref 82) [.ref a]) Q E s := by
  k_fill
  intro w dp u fr gd h₀ mg mb s p loose mean Q E X T hk hroom a d its n n2 hs t1 t2 ps qs ha hd hna hnd hz hp hC h77 G h
  refine' enter (as := [77]) (binds := [(Str.ofString "self", .ref a)]) X T hk ?n ?k6 ?k7 ?k8 ?k9 ?kB ?c2 ?c3 ?c4 ?c5 ?_
  case n => intro b hb; rw [List.mem_singleton.mp hb]; exact h77
  case k6 => k_is
  case k7 => k_is
  case k8 => simp only [recursionLimit]; omega
  case k9 => exact BindsTo.of_eq rfl
  case c5 => decide
  case kB => exact locs rfl
  case c2 => exact rfl
  case c3 => exact rfl
  case c4 => exact rfl
  intro g L h₁ tk₁ hg hL F' hk₁ X' T'
  have N' : News g L h₁ [] := news_nil
  clear X T
  k_steps
  unfold Hold
  obtain ⟨Ts, vals, e1, e2, e3⟩ := (hp.keeps hk₁).split
  have hg77 : g.get? 77 = none := by rw [hg]; exact hideAll_none _ (.head _)
  refine acc_genexp (h₀ := g) (F := fun i y => ∃ p t, ps[i]? = some p ∧ y = .str (Txt.join (Str.ofString "") [p.1, p.2]) t) rfl X' T' F'.keep hg77 G (hk₁ _ _ ha) (hC.keeps hk₁) rfl rfl e1 e2 ?_ rfl rfl (by decide) rfl rfl rfl (by decide) rfl ?_ ?_ ?_ ?_ ?_
  · intro j hj
    obtain ⟨p, tf, tq, _, _, _, e⟩ := e3 j hj
    exact ⟨_, _, e⟩
  · simp only [depth_deeper, recursionLimit]; omega
  · intro Q' q
    exact ld F' rfl q
  · intro C code A' E' i va vb t m₂ hA hi hv hn ha' hb' hk'
    obtain ⟨p, tf, tq, ep, l1, l2, e⟩ := e3 i hi
    rw [e] at hv
    obtain ⟨q1, q2⟩ : Value.str p.1 tf = va ∧ Value.str p.2 tq = vb := by simpa using congrArg Array.toList hv
    subst q1 q2
    exact wpAny_mono (str_elt X' T' hk' (code := code) rfl hn ha' hb' l1 l2) (fun y s₃ r => ⟨let ⟨t, e⟩ := r.1; ⟨p, t, ep, e⟩, r.2⟩) fun _ _ x => x
  · intro aG s₅ G₅ hos hdr₅ hk₅ hC₅ gen
    have F₅ : Fr g L s₅.heap (fun y => List.lookup y [(Str.ofString "self", Value.ref a)].reverse) :=
      ⟨F'.ns.at' fun o e => hk₅ _ _ (by rw [hL]; exact Nat.ne_of_gt hC.lt.2) e, fun b o e => hk₅ b o (by rintro rfl; rw [hg77] at e; cases e) (F'.keep b o e), F'.above⟩
    k_steps
    refine join_rowsD G₅ gen (fun j => Txt.join (Str.ofString "") [(ps.getD j (Str.empty, Str.empty)).1, (ps.getD j (Str.empty, Str.empty)).2]) ?_ ?_ ?_ (by rw [sizeLine_eq, List.length_range]; omega)
    · rintro j v ⟨i, hi, p, t, ep, rfl⟩
      have e : i = j := by
        have := (List.getElem?_eq_some_iff.mp hi)
        obtain ⟨_, h2⟩ := this
        simpa using h2.symm
      subst e
      exact ⟨t, by simp [List.getD_eq_getElem?_getD, ep]⟩
    · rw [rangeMap hp.1]
      exact pairText_ok ps (fun p hm => by
        obtain ⟨j, hj⟩ := List.mem_iff_getElem?.mp hm
        have := hp.2 j p hj
        exact ⟨this.1, this.2.1⟩) (hp.1 ▸ hz)
    · intro s' t' G₆ hos' hdr hk₆
      rw [rangeMap hp.1]
      have up : ∀ b o, b < s.heap.objs.size → s₅.heap.get? b = some o → s'.heap.get? b = some o := fun b o hb e => hk₆ b o (Nat.le_sub_one_of_lt (Nat.lt_trans hb (hL ▸ F'.ns.lt))) e
      refine h t' s' G₆ (hos'.trans hos) (hdr.trans hdr₅) (fun b o hb e => up b o (Heap.lt_size e) (hk₅ b o hb (hk₁ b o e))) ?_
      obtain ⟨ps', x⟩ := hC₅
      exact ⟨ps', x.step (fun o e => up _ o hC.lt.1 e) (fun o e => up _ o hC.lt.2 e)⟩
  · intro _; with_unfolding_all rfl
end Mine
end

section
open PySem PySem.W PyProof.Rows PySem.Calls
namespace Mine
section
variable {w : World} {h : Heap}
theorem acc_gaL (X : (hd.heap_1 w.params).In h) : Looks (M0 w) h (typeLookup (.ref 108) "__getattribute__") (some (.builtin "list.__getattribute__")) := Looks.of_peek X (by kernel_rfl)
theorem acc_hookL (X : (hd.heap_1 w.params).In h) : Looks (M0 w) h (typeLookup (.ref 108) "__getattr__") none := Looks.of_peek X (by kernel_rfl)
end
theorem bind_lga (self : Value) : bindSpecial (.builtin "list.__getattribute__") self = pure (.builtin "list.__getattribute__", [self]) :=
  (Slot.of (T := "list") (owner := "list") (n := "__getattribute__") (by rw [typeLookup_type, builtinLookup_eq_fast]; kernel_rfl) (by decide +kernel) (by decide +kernel) (by decide +kernel) (by first | exact .inl (by decide +kernel) | exact .inr (by decide +kernel)) (by rw [isSubtype_type]; kernel_rfl) : Slot "list" "__getattribute__" "list.__getattribute__").bind self
theorem entry_lga : entryFor table "list.__getattribute__" = some Builtin.«object.__getattribute__» := entryFor_alias (id' := "object.__getattribute__") (by rw [fastTable_eq_tree]; kernel_rfl) (by decide +kernel) (by decide +kernel) (by rw [fastTable_eq_tree]; kernel_rfl)
theorem args_lga (a b : Value) : argsOk "list.__getattribute__" ⟨[a, b], []⟩ := by unfold argsOk; kernel_rfl
theorem kind_lga : builtinKind "list.__getattribute__" = some .slot := by decide +kernel
theorem split_lga : splitId "list.__getattribute__" = some ("list", "__getattribute__") := by decide +kernel
theorem plain_lga : plainId "list.__getattribute__" = true := by decide +kernel
theorem acc_getattr {w : World} {A : Around} {E : Value → Shared → Prop} {s : Shared} {a d : Addr} {its : Array Value} {n n2 : Nat} {hs : Int} {t1 t2 : Tok} {Q : Value → Shared → Prop} {ex : Bool} (X : (hd.heap_1 w.params).In s.heap) (ha : s.heap.get? a = some (accObj d its n)) (hdd : s.heap.get? d = some (accDict hs t1 t2 n2))
    (h : Q (.int 0 t2) { s with toks := s.toks + 1 }) : wpAny (M0 w) A (getAttr (.ref a) (Str.ofString "_initial_size") ex) Q E s := by
  have hf : findObj (hd.heap_1 w.params) 108 (some (accDict hs t1 t2 n2)) (Str.ofString "_initial_size") = some (.value (.int 0 t2)) := by kernel_rfl
  have I : InstAt s.heap a (accObj d its n) 108 (some (accDict hs t1 t2 n2)) := acc_inst ha hdd
  obtain ⟨hh, g, dr, t, os⟩ := s
  unfold getAttr getAttrBy
  refine wpAny_bind (wpAny_mkText (wpAny_holding (wpAny_bind ((I.type (M := M0 w)).at (wpAny_bind ((acc_gaL X).at ?_))))))
  dsimp only
  rw [if_neg (by decide)]
  unfold getAttrByItsOwn
  refine wpAny_bind ?_
  unfold hookBefore
  rw [if_pos (by rfl)]
  refine (acc_hookL X).at ?_
  refine wpAny_bind (wpAny_attempt (wpAny_holding ?_))
  unfold callGetattribute
  rw [if_neg (by cases ex <;> decide)]
  unfold boundAndCalled
  refine wpAny_bind (wpAny_of_eq (bind_lga _) ?_)
  refine call_slot_sub plain_lga entry_lga kind_lga split_lga (acc_isL (s := ⟨hh, g, dr, t + 1, os⟩) X ha) (args_lga _ _) ?_
  refine wpAny_bind (wpAny_pure (wpAny_bind (wpAny_pure (wpAny_bind ((I.type (M := M0 w)).at (wpAny_bind ((looks_find (M := M0 w) X I hf).at ?_)))))))
  exact wpAny_pure ⟨_, rfl, wpAny_pure h⟩
end Mine
end

section
open PySem PySem.W PyProof.Rows PySem.Calls
namespace Mine
local macro_rules | `(tactic| walk_at "no such key 0") => `(tactic| fail)
noncomputable def scopeN : Scope := { kind := ScopeKind.function, names := [(Str.ofString ".0", NameKind.local), (Str.ofString "fws", NameKind.local), (Str.ofString "part", NameKind.local), (Str.ofString "len", NameKind.globalImplicit)], isGenerator := true, isCoroutine := false }
theorem len_elt : ∀ {w : World} {h₀ : Heap} {A : Around} {E : Value → Shared → Prop} {s : Shared} {mg mb : Str → Option Value} {p : Program} {loose : List Str} {mean : ExcName → Option Value} (X : (hd.heap_1 w.params).In h₀) (T : Top p loose mean mg mb h₀) (hk : ∀ b o, h₀.get? b = some o → s.heap.get? b = some o)
    {C : Addr} {code : Value} {m : Str → Option Value} {env : Env} {f q : Str} {tf tq : Tok} (hgl : env.globals = mainGlobals) (hn : s.heap.Ns (genEnv scopeN [] C code builtinsNs env).locals m) (h1 : m (Str.ofString "fws") = some (.str f tf)) (h2 : m (Str.ofString "part") = some (.str q tq)) (hf : f.length ≤ 1) (hq : q.length ≤ 1),
    wpAny (model PySem.Challenge.rw_re0035_01.row.prog w) A (eval (((Expr.Name (Str.ofString "len") { line := 39, col := 20, endLine := 39, endCol := 23 }).Call [Expr.Name (Str.ofString "fws") { line := 39, col := 24, endLine := 39, endCol := 27 }] [] { line := 39, col := 20, endLine := 39, endCol := 28 }).BinOp Operator.Add
              ((Expr.Name (Str.ofString "len") { line := 39, col := 31, endLine := 39, endCol := 34 }).Call [Expr.Name (Str.ofString "part") { line := 39, col := 35, endLine := 39, endCol := 39 }] [] { line := 39, col := 31, endLine := 39, endCol := 40 }) { line := 39, col := 20, endLine := 39, endCol := 40 }) (genEnv scopeN [] C code builtinsNs env))
      (fun y s₃ => (∃ t, y = .int (f.length + q.length) t) ∧ Keeps s s₃) E s := by
  intro w h₀ A E s mg mb p loose mean X T hk C code m env f q tf tq hgl hn h1 h2 hf hq
  refine wpAny_BinOp ?_
  with_unfolding_all refine Call_ ?_
  refine glob_B (v := .builtin "len") X T hk (by kernel_rfl) boot_len (by decide) ?_ hgl rfl rfl rfl (by decide)
  with_unfolding_all refine PyProof.Rows.callWith_builtin1 ?_
  with_unfolding_all refine args_cons (ldG hn h1 ?_)
  refine args_nil ?_
  refine len_str (by omega) ?_
  with_unfolding_all refine Call_ ?_
  refine glob_B (v := .builtin "len") X T hk (by kernel_rfl) boot_len (by decide) ?_ hgl rfl rfl rfl (by decide)
  with_unfolding_all refine PyProof.Rows.callWith_builtin1 ?_
  with_unfolding_all refine args_cons (ldG (s := { s with toks := s.toks + 1 + 1 }) hn h2 ?_)
  refine args_nil ?_
  refine len_str (by omega) ?_
  refine wpAny_add_int ?_
  exact ⟨⟨_, rfl⟩, _, _, rfl, fun b o e => e⟩
theorem args_sum2 (a b : Value) : argsOk "sum" ⟨[a, b], []⟩ := by unfold argsOk; kernel_rfl
/-- sum of a generator's ints from the start 0 -/
theorem sum2_rows {prog : Program} {w : World} {A : Around} {E : Value → Shared → Prop} {s : Shared} {K a : Addr} {n : Nat} {F : Nat → Value → Prop} {Q : Value → Shared → Prop} {t0 : Tok} (G : AllBare s.gens) (X : Gen prog w A K a n F s) (val : Nat → Int) (hval : ∀ j v, F j v → ∃ t, v = .int (val j) t) (hfit : ∀ j, j < n → InLong (val j) ∧ InLong (preSum val (j + 1)))
    (hQ : ∀ (s' : Shared) t', AllBare s'.gens → s'.os = s.os → s'.drawn = s.drawn → (∀ b o, b ≤ K → s.heap.get? b = some o → s'.heap.get? b = some o) → Q (.int (preSum val n) t') s') : wpAny (model prog w) A (call (.builtin "sum") [.ref a, .int 0 t0]) Q E s := by
  obtain ⟨fp, wr, g, St, W, hst, _, _, hfp, hwr⟩ := X
  have W := W.in4_1
  refine call_function_tree PySem.F.kind_sum PySem.F.plain_sum PySem.F.entry_sum (args_sum2 _ _) ?_
  unfold Builtin.«sum»
  simp only [List.length_cons, List.length_nil]
  rw [if_neg (by decide)]
  refine wpAny_bind (wpAny_of_eq (show Builtin.Builtins.bindParams "sum" ["start"] 0 ⟨[.int 0 t0], []⟩ = pure [some (.int 0 t0)] from rfl) ?_)
  refine wpAny_bind (W.self 0 _ _ _ hst ?_)
  dsimp only
  rw [if_pos (by decide)]
  refine wpAny_bind (wpAny_rule (wpAny_bind (wpAny_mkInt (wpAny_bind (wpAny_pure ?_)))))
  simp only [List.forIn_cons, List.forIn_nil]
  refine wpAny_bind (wpAny_bind (wpAny_bind (wpAny_isInstance (T := "int") (b := false) (typeIs_int _ _ _) PySem.sub_int_str ?_)))
  simp only [Bool.false_eq_true, if_false]
  refine wpAny_pure (wpAny_bind (wpAny_bind (wpAny_isInstance (T := "int") (b := false) (typeIs_int _ _ _) PySem.sub_int_bytes ?_)))
  simp only [Bool.false_eq_true, if_false]
  refine wpAny_pure (wpAny_bind (wpAny_bind (wpAny_isInstance (T := "int") (b := false) (typeIs_int _ _ _) PySem.sub_int_bytearray ?_)))
  simp only [Bool.false_eq_true, if_false]
  refine wpAny_pure (wpAny_pure ?_)
  refine wpAny_bind (wpAny_newObj_type ?_)
  have hSf : s.heap.objs.size ∉ fp := fun hm => Nat.lt_irrefl _ (hfp _ hm)
  refine wpAny_pure ⟨plainId_quiet PySem.F.plain_sum_loop _, codeAny_sum_loopS W val hval hfit s.heap.objs.size hSf n 0 _ s.toks 0 rfl (Nat.zero_le _)
    (W.frame 0 s _ _ hst (by first | exact Nat.le_refl _ | exact Nat.le_succ _ | omega) fun b _ o e => Heap.get?_push_of_some _ e) (Heap.get?_push_size _ rfl) fun s' t' hm => ?_⟩
  have hm := hm.drop_new (by first | exact Nat.le_refl _ | exact Nat.le_succ _ | omega)
  exact hQ s' t' (G.movedS hm) hm.os hm.drawn fun b o hb e => hm.heap b o (fun hmem => Nat.lt_irrefl _ (Nat.lt_of_lt_of_le (hwr b hmem) hb)) e
theorem gen_tok {prog : Program} {w : World} {A : Around} {s : Shared} {K a : Addr} {n : Nat} {F : Nat → Value → Prop} (X : Gen prog w A K a n F s) : Gen prog w A K a n F { s with toks := s.toks + 1 } := by
  obtain ⟨fp, wr, g, St, W, h1, h2, h3, h4, h5⟩ := X
  exact ⟨fp, wr, g, St, W, W.frame 0 s _ _ h1 (Nat.le_succ _) fun _ _ _ e => e, h2, h3, h4, h5⟩
theorem preSum_one (n : Nat) : preSum (fun _ => 1) n = n := by
  induction n with
  | zero => rfl
  | succ n ih => simp [preSum, ih]
local macro_rules | `(tactic| walk_at "eval GeneratorExp") => `(tactic| refine hold ?_)
local macro_rules | `(tactic| walk_at "call builtin:sum") => `(tactic| refine hold ?_)
local macro_rules | `(tactic| walk_at "getAttr ref") => `(tactic| ((with_reducible rename Fr _ _ _ _ => aF); (with_reducible rename News _ _ _ _ => aN); refine acc_getattr (Frag.In.keeps (by assumption) aF.keep) (aN.get (.head _)) (aN.get (.tail _ (.head _))) ?_))
local macro_rules | `(tactic| k_inst) => `(tactic| exact acc_inst (News.get (by k_asm) (by k_mem)) (News.get (by k_asm) (by k_mem)))
theorem len_c : ∀ {w : World} {dp u : Nat} {fr : Option (List Env)} {gd : Option (List Code)} {h₀ : Heap} {mg mb : Str → Option Value} {s : Shared} {p : Program} {loose : List Str} {mean : ExcName → Option Value}
    {Q E : Value → Shared → Prop} (X : (hd.heap_1 w.params).In h₀) (T : Top p loose mean mg mb h₀) (hk : ∀ b o, h₀.get? b = some o → s.heap.get? b = some o) (hroom : dp < 600)
    (a d : Addr) (its : Array Value) (n n2 : Nat) (hs : Int) (t1 t2 : Tok) (ps : List (Str × Str)) (qs : Array Value) (ha : s.heap.get? a = some (accObj d its n)) (hd : s.heap.get? d = some (accDict hs t1 t2 n2)) (hna : h₀.get? a = none) (hnd : h₀.get? d = none) (hz : its.size ≤ 1000) (hp : Pairs s.heap its ps)
    (hC : IsCodeT s.heap 74 70 qs) (h70 : h₀.get? 70 = none) (G : AllBare s.gens)
    (hone : ∀ p ∈ ps, p.1.length + p.2.length = 1)
    (h : ∀ t (s' : Shared), AllBare s'.gens → s'.os = s.os → s'.drawn = s.drawn → (∀ b o, b ≠ 70 → s.heap.get? b = some o → s'.heap.get? b = some o) → (∃ qs', IsCodeT s'.heap 74 70 qs') → Q (.int ps.length t) s'),
    wpAny (model PySem.Challenge.rw_re0035_01.row.prog w) ⟨none, dp, fr, gd, u⟩ (call (.ref 75) [.ref a]) Q E s := by
  k_fill
  intro w dp u fr gd h₀ mg mb s p loose mean Q E X T hk hroom a d its n n2 hs t1 t2 ps qs ha hd hna hnd hz hp hC h70 G hone h
  refine' enter (as := [a, d, 70]) (binds := [(Str.ofString "self", .ref a)]) X T hk ?n ?k6 ?k7 ?k8 ?k9 ?kB ?c2 ?c3 ?c4 ?c5 ?_
  case n =>
    intro b hb
    rcases List.mem_cons.mp hb with rfl | hb
    · exact hna
    rcases List.mem_cons.mp hb with rfl | hb
    · exact hnd
    rw [List.mem_singleton.mp hb]; exact h70
  case k6 => k_is
  case k7 => k_is
  case k8 => simp only [recursionLimit]; omega
  case k9 => exact BindsTo.of_eq rfl
  case c5 => decide
  case kB => exact locs rfl
  case c2 => exact rfl
  case c3 => exact rfl
  case c4 => exact rfl
  intro g L h₁ tk₁ hg hL F' hk₁ X' T'
  have N' : News g L h₁ [(a, accObj d its n), (d, accDict hs t1 t2 n2)] := fun p hp => by
    rcases List.mem_cons.mp hp with rfl | hp
    · exact ⟨hk₁ _ _ ha, Nat.ne_of_lt (hL ▸ Heap.lt_size ha), hg ▸ hideAll_none _ (.head _)⟩
    · rw [List.mem_singleton.mp hp]
      exact ⟨hk₁ _ _ hd, Nat.ne_of_lt (hL ▸ Heap.lt_size hd), hg ▸ hideAll_none _ (.tail _ (.head _))⟩
  clear X T
  k_steps
  unfold Hold
  obtain ⟨Ts, vals, e1, e2, e3⟩ := (hp.keeps hk₁).split
  have hg70 : g.get? 70 = none := by rw [hg]; exact hideAll_none _ (.tail _ (.tail _ (.head _)))
  have ne70 : ∀ (b : Addr) (o : Obj), s.heap.get? b = some o → (∀ q, o.data ≠ .fields q) → b ≠ 70 := by
    rintro b o e hne rfl
    obtain ⟨_, _, _, _, _, _, _, _, _, op, _, _, _, _, _, _, _, hop, hpd, _, _⟩ := hC.1
    rw [hop] at e
    exact hne _ ((Option.some.inj e) ▸ hpd)
  have ha70 : a ≠ 70 := ne70 _ _ ha (fun q e => by cases e)
  have hd70 : d ≠ 70 := ne70 _ _ hd (fun q e => by cases e)
  refine acc_genexp (h₀ := g) (F := fun i y => ∃ t, y = .int 1 t) rfl X' T' F'.keep hg70 G (hk₁ _ _ ha) (hC.keeps hk₁) rfl rfl e1 e2 ?_ rfl rfl (by decide) rfl rfl rfl (by decide) rfl ?_ ?_ ?_ ?_ ?_
  · intro j hj
    obtain ⟨p, tf, tq, _, _, _, e⟩ := e3 j hj
    exact ⟨_, _, e⟩
  · simp only [depth_deeper, recursionLimit]; omega
  · intro Q' q
    exact ld F' rfl q
  · intro C code A' E' i va vb t m₂ hA hi hv hn ha' hb' hk'
    obtain ⟨p, tf, tq, ep, l1, l2, e⟩ := e3 i hi
    rw [e] at hv
    obtain ⟨q1, q2⟩ : Value.str p.1 tf = va ∧ Value.str p.2 tq = vb := by simpa using congrArg Array.toList hv
    subst q1 q2
    have one := hone p (List.mem_of_getElem? ep)
    exact wpAny_mono (len_elt X' T' hk' (code := code) rfl hn ha' hb' l1 l2) (fun y s₃ r => ⟨let ⟨t, e⟩ := r.1; ⟨t, by rw [e]; congr 1; omega⟩, r.2⟩) fun _ _ x => x
  · intro aG s₅ G₅ hos hdr₅ hk₅ hC₅ gen
    have F₅ : Fr g L s₅.heap (fun y => List.lookup y [(Str.ofString "self", Value.ref a)].reverse) :=
      ⟨F'.ns.at' fun o e => hk₅ _ _ (by rw [hL]; exact Nat.ne_of_gt hC.lt.2) e, fun b o e => hk₅ b o (by rintro rfl; rw [hg70] at e; cases e) (F'.keep b o e), F'.above⟩
    have N₅ : News g L s₅.heap [(a, accObj d its n), (d, accDict hs t1 t2 n2)] := fun p hp => by
      rcases List.mem_cons.mp hp with rfl | hp
      · exact ⟨hk₅ _ _ ha70 (N'.get (.head _)), (N' _ (.head _)).2⟩
      · rw [List.mem_singleton.mp hp]
        exact ⟨hk₅ _ _ hd70 (N'.get (.tail _ (.head _))), (N' _ (.tail _ (.head _))).2⟩
    have hL1 : L < h₁.objs.size := F'.ns.lt
    clear F' N'
    k_steps
    unfold Hold
    refine sum2_rows (s := { s₅ with toks := s₅.toks + 1 }) G₅ (gen_tok gen) (fun _ => 1) ?_ ?_ ?_
    · rintro j v ⟨i, _, t, rfl⟩; exact ⟨t, rfl⟩
    · intro j hj
      rw [List.length_range] at hj
      rw [preSum_one]
      constructor <;> (unfold InLong; constructor <;> omega)
    · intro s' t' G₆ hos' hdr hk₆
      rw [preSum_one, List.length_range, hp.1]
      have up : ∀ b o, b < s.heap.objs.size → s₅.heap.get? b = some o → s'.heap.get? b = some o := fun b o hb e => hk₆ b o (Nat.le_sub_one_of_lt (Nat.lt_trans hb (hL ▸ hL1))) e
      refine h t' s' G₆ (hos'.trans hos) (hdr.trans hdr₅) (fun b o hb e => up b o (Heap.lt_size e) (hk₅ b o hb (hk₁ b o e))) ?_
      obtain ⟨ps', x⟩ := hC₅
      exact ⟨ps', x.step (fun o e => up _ o hC.lt.1 e) (fun o e => up _ o hC.lt.2 e)⟩
  · intro _; with_unfolding_all rfl
end Mine
end

section
open PySem PySem.W PyProof.Rows PySem.Calls
namespace Mine
section
variable {w : World} {h : Heap}
theorem acc_nobool (X : (hd.heap_1 w.params).In h) : Looks (M0 w) h (typeLookup (.ref 108) "__bool__") none := Looks.of_peek X (by kernel_rfl)
theorem acc_lenL (X : (hd.heap_1 w.params).In h) : Looks (M0 w) h (typeLookup (.ref 108) "__len__") (some (.ref 75)) := Looks.of_peek X (by kernel_rfl)
end
section
variable {w : World} {dp u : Nat} {fr : Option (List Env)} {gd : Option (List Code)} {h₀ : Heap} {mg mb : Str → Option Value} {s : Shared} {p : Program} {loose : List Str} {mean : ExcName → Option Value} {E : Value → Shared → Prop}
theorem acc_truthy {Q : Bool → Shared → Prop} (X : (hd.heap_1 w.params).In h₀) (T : Top p loose mean mg mb h₀) (hk : ∀ b o, h₀.get? b = some o → s.heap.get? b = some o) (hroom : dp < 600)
    (a d : Addr) (its : Array Value) (n n2 : Nat) (hs : Int) (t1 t2 : Tok) (ps : List (Str × Str)) (qs : Array Value) (ha : s.heap.get? a = some (accObj d its n)) (hdd : s.heap.get? d = some (accDict hs t1 t2 n2)) (hna : h₀.get? a = none) (hnd : h₀.get? d = none) (hz : its.size ≤ 1000) (hp : Pairs s.heap its ps)
    (hC : IsCodeT s.heap 74 70 qs) (h70 : h₀.get? 70 = none) (G : AllBare s.gens) (hone : ∀ p ∈ ps, p.1.length + p.2.length = 1)
    (h : ∀ (s' : Shared), AllBare s'.gens → s'.os = s.os → s'.drawn = s.drawn → (∀ b o, b ≠ 70 → s.heap.get? b = some o → s'.heap.get? b = some o) → (∃ qs', IsCodeT s'.heap 74 70 qs') → Q (!ps.isEmpty) s') :
    wpAny (M0 w) ⟨none, dp, fr, gd, u⟩ (truthy (.ref a)) Q E s := by
  have hne : ((ps.length : Int) != 0) = !ps.isEmpty := by
    cases ps with
    | nil => rfl
    | cons x r => simp [bne_iff_ne]; omega
  have I : InstAt s.heap a (accObj d its n) 108 (some (accDict hs t1 t2 n2)) := acc_inst ha hdd
  have X' := X.keeps hk
  have key : wpAny (M0 w) ⟨none, dp, fr, gd, u⟩ (runValue (.builtin "len" ⟨[.ref a], []⟩)) (fun r s' => ∃ t, r = .int ps.length t ∧ Q (!ps.isEmpty) s') E s := by
    refine wpAny_runValue (codeAny_builtin entry_len ?_)
    rw [Around.under_plainId plain_len _]
    unfold Builtin.«len»
    refine wpAny_bind (m := oneArg "len" _) (wpAny_pure ?_)
    refine wpAny_bind (m := callSpecial? (.ref a) (Str.ofString "__len__")) (special_fn X' I (f := 75) (by kernel_rfl) (by kernel_rfl) ?_)
    refine len_c X T hk hroom a d its n n2 hs t1 t2 ps qs ha hdd hna hnd hz hp hC h70 G hone ?_
    intro t s' G' hos hdr' hk' hC'
    refine wpAny_bind (wpAny_holding (wpAny_pure ?_))
    refine wpAny_bind (wpAny_letGo ?_)
    have : ps.length ≤ 1000 := hp.1 ▸ hz
    show wpAny _ _ (if ((ps.length : Nat) : Int) < 0 then _ else _) _ _ _
    rw [if_neg (by omega)]
    show wpAny _ _ (if ((ps.length : Nat) : Int) ≥ 2 ^ 63 then _ else _) _ _ _
    rw [if_neg (by omega)]
    exact wpAny_bind (wpAny_mkInt (wpAny_pure ⟨_, rfl, h _ G' hos hdr' hk' hC'⟩))
  unfold truthy
  refine wpAny_bind ?_
  unfold callSpecial? specialOf
  refine wpAny_bind (wpAny_bind (I.type.here ((acc_nobool X').here (wpAny_pure ?_))))
  refine wpAny_bind (wpAny_bind (I.type.here ((acc_lenL X').here ?_)))
  first
    | exact wpAny_bind (wpAny_mono key (fun r s' h' => by obtain ⟨t, rfl, hq⟩ := h'; exact wpAny_pure (hne ▸ hq)) fun _ _ e => e)
    | exact wpAny_bind (wpAny_pure (wpAny_bind (wpAny_mono key (fun r s' h' => by obtain ⟨t, rfl, hq⟩ := h'; exact wpAny_pure (hne ▸ hq)) fun _ _ e => e)))
theorem acc_str {Q : Value → Shared → Prop} (X : (hd.heap_1 w.params).In h₀) (T : Top p loose mean mg mb h₀) (hk : ∀ b o, h₀.get? b = some o → s.heap.get? b = some o) (hroom : dp < 600) (hu : u < 9000)
    (a d : Addr) (its : Array Value) (n n2 : Nat) (hs : Int) (t1 t2 : Tok) (ps : List (Str × Str)) (qs : Array Value) (ha : s.heap.get? a = some (accObj d its n)) (hdd : s.heap.get? d = some (accDict hs t1 t2 n2)) (hna : h₀.get? a = none) (hnd : h₀.get? d = none) (hz : its.size ≤ 1000) (hp : Pairs s.heap its ps)
    (hC : IsCodeT s.heap 81 77 qs) (h77 : h₀.get? 77 = none) (G : AllBare s.gens)
    (h : ∀ t (s' : Shared), AllBare s'.gens → s'.os = s.os → s'.drawn = s.drawn → (∀ b o, b ≠ 77 → s.heap.get? b = some o → s'.heap.get? b = some o) → (∃ qs', IsCodeT s'.heap 81 77 qs') → Q (.str (pairText ps) t) s') :
    wpAny (M0 w) ⟨none, dp, fr, gd, u⟩ (call (.type "str") [.ref a]) Q E s := by
  refine kso_call (f := 82) (by show u + 1 + 1 < cLine; unfold cLine; omega) (X.keeps hk) (acc_inst ha hdd) (by kernel_rfl) (by kernel_rfl) ?_
  exact str_c X T hk hroom a d its n n2 hs t1 t2 ps qs ha hdd hna hnd hz hp hC h77 G h
end
theorem over {g h h' : Heap} {L P : Addr} {m : Str → Option Value} {news : List (Addr × Obj)} (F : Fr g L h m) (N : News g L h news) (hP : g.get? P = none) (hPL : @LT.lt Nat _ P L) (hPn : ∀ p ∈ news, p.1 ≠ P) (hk : ∀ b o, b ≠ P → h.get? b = some o → h'.get? b = some o) : Fr g L h' m ∧ News g L h' news :=
  ⟨⟨F.ns.at' fun o e => hk _ _ (Nat.ne_of_gt hPL) e, fun b o e => hk b o (by rintro rfl; rw [hP] at e; cases e) (F.keep b o e), F.above⟩, fun p hp => ⟨hk _ _ (hPn p hp) (N p hp).1, (N p hp).2⟩⟩
theorem ne_tab {h : Heap} {c P b : Addr} {ps : Array Value} {o : Obj} (hC : IsCodeT h c P ps) (e : h.get? b = some o) (hne : ∀ q, o.data ≠ .fields q) : b ≠ P := by
  rintro rfl
  obtain ⟨_, _, _, _, _, _, _, _, _, op, _, _, _, _, _, _, _, hop, hpd, _, _⟩ := hC.1
  rw [hop] at e
  exact hne _ ((Option.some.inj e) ▸ hpd)
theorem code_keep {h h' : Heap} {c P T : Addr} {ps : Array Value} (hC : IsCodeT h c P ps) (h1 : c ≠ T) (h2 : P ≠ T) (hk : ∀ b o, b ≠ T → h.get? b = some o → h'.get? b = some o) : IsCodeT h' c P ps :=
  hC.step (fun o e => hk _ o h1 e) (fun o e => hk _ o h2 e)
theorem Pairs.keepBut {h h' : Heap} {its : Array Value} {ps : List (Str × Str)} {c P : Addr} {qs : Array Value} (x : Pairs h its ps) (hC : IsCodeT h c P qs) (hk : ∀ b o, b ≠ P → h.get? b = some o → h'.get? b = some o) : Pairs h' its ps :=
  ⟨x.1, fun j p e => let ⟨a, b, T, tf, tq, n, e1, e2⟩ := x.2 j p e; ⟨a, b, T, tf, tq, n, e1, hk _ _ (ne_tab hC e2 (fun q e => by cases e)) e2⟩⟩
local macro_rules | `(tactic| walk_at "getAttr ref") => `(tactic| ((with_reducible rename Fr _ _ _ _ => aF); (with_reducible rename News _ _ _ _ => aN); refine acc_getattr (Frag.In.keeps (by assumption) aF.keep) (aN.get (.head _)) (aN.get (.tail _ (.head _))) ?_))
local macro_rules | `(tactic| walk_at "call type:str") => `(tactic| refine hold ?_)
local macro_rules | `(tactic| walk_at "truthy ref") => `(tactic| refine hold ?_)
theorem ws_c : ∀ {w : World} {dp u : Nat} {fr : Option (List Env)} {gd : Option (List Code)} {h₀ : Heap} {mg mb : Str → Option Value} {s : Shared} {p : Program} {loose : List Str} {mean : ExcName → Option Value}
    {Q E : Value → Shared → Prop} (X : (hd.heap_1 w.params).In h₀) (T : Top p loose mean mg mb h₀) (hk : ∀ b o, h₀.get? b = some o → s.heap.get? b = some o) (hroom : dp < 500) (hu : u < 5000)
    (a d : Addr) (its : Array Value) (n n2 : Nat) (hs : Int) (t1 t2 : Tok) (ps : List (Str × Str)) (qs qs' : Array Value) (ha : s.heap.get? a = some (accObj d its n)) (hd : s.heap.get? d = some (accDict hs t1 t2 n2)) (hna : h₀.get? a = none) (hnd : h₀.get? d = none) (hz : its.size ≤ 1000) (hp : Pairs s.heap its ps)
    (hC : IsCodeT s.heap 81 77 qs) (h77 : h₀.get? 77 = none) (hC' : IsCodeT s.heap 74 70 qs') (h70 : h₀.get? 70 = none) (G : AllBare s.gens) (hone : ∀ p ∈ ps, p.1.length + p.2.length = 1)
    (h : ∀ (s' : Shared), AllBare s'.gens → s'.os = s.os → s'.drawn = s.drawn → (∀ b o, b ≠ 77 → b ≠ 70 → s.heap.get? b = some o → s'.heap.get? b = some o) → (∃ qs, IsCodeT s'.heap 81 77 qs) → (∃ qs, IsCodeT s'.heap 74 70 qs) → Q (.bool (ps.isEmpty || Txt.isspace (pairText ps))) s'),
    wpAny (model PySem.Challenge.rw_re0035_01.row.prog w) ⟨none, dp, fr, gd, u⟩ (call (.ref 97) [.ref a]) Q E s := by
  k_fill
  intro w dp u fr gd h₀ mg mb s p loose mean Q E X T hk hroom hu a d its n n2 hs t1 t2 ps qs qs' ha hd hna hnd hz hp hC h77 hC' h70 G hone h
  refine' enter (as := [a, d, 70, 77]) (binds := [(Str.ofString "self", .ref a)]) X T hk ?n ?k6 ?k7 ?k8 ?k9 ?kB ?c2 ?c3 ?c4 ?c5 ?_
  case n =>
    intro b hb
    simp only [List.mem_cons, List.not_mem_nil, or_false] at hb
    rcases hb with rfl | rfl | rfl | rfl <;> assumption
  case k6 => k_is
  case k7 => k_is
  case k8 => simp only [recursionLimit]; omega
  case k9 => exact BindsTo.of_eq rfl
  case c5 => decide
  case kB => exact locs rfl
  case c2 => exact rfl
  case c3 => exact rfl
  case c4 => exact rfl
  intro g L h₁ tk₁ hg hL F' hk₁ X' T'
  have N' : News g L h₁ [(a, accObj d its n), (d, accDict hs t1 t2 n2)] := fun p hp => by
    rcases List.mem_cons.mp hp with rfl | hp
    · exact ⟨hk₁ _ _ ha, Nat.ne_of_lt (hL ▸ Heap.lt_size ha), hg ▸ hideAll_none _ (.head _)⟩
    · rw [List.mem_singleton.mp hp]
      exact ⟨hk₁ _ _ hd, Nat.ne_of_lt (hL ▸ Heap.lt_size hd), hg ▸ hideAll_none _ (.tail _ (.head _))⟩
  clear X T
  have hg70 : g.get? 70 = none := by rw [hg]; exact hideAll_none _ (.tail _ (.tail _ (.head _)))
  have hg77 : g.get? 77 = none := by rw [hg]; exact hideAll_none _ (.tail _ (.tail _ (.tail _ (.head _))))
  have hga : g.get? a = none := by rw [hg]; exact hideAll_none _ (.head _)
  have hgd : g.get? d = none := by rw [hg]; exact hideAll_none _ (.tail _ (.head _))
  have hL7 : 77 < L := by rw [hL]; exact hC.lt.2
  k_steps
  unfold Hold
  (with_reducible rename Fr _ _ _ _ => F₁)
  (with_reducible rename News _ _ _ _ => N₁)
  refine acc_truthy X' T' F₁.keep (by dsimp only; omega) a d its n n2 hs t1 t2 ps qs' (N₁.get (.head _)) (N₁.get (.tail _ (.head _))) hga hgd hz (hp.keeps hk₁) (hC'.keeps hk₁) hg70 G hone ?_
  intro s₂ G₂ hos₂ hdr₂ hk₂ hC₂
  replace hdr₂ : s₂.drawn = s.drawn := hdr₂
  replace hk₂ : ∀ b o, b ≠ 70 → h₁.get? b = some o → s₂.heap.get? b = some o := hk₂
  replace hos₂ : s₂.os = s.os := hos₂
  have a70 := ne_tab hC' ha (fun q e => by cases e)
  have d70 := ne_tab hC' hd (fun q e => by cases e)
  have a77 := ne_tab hC ha (fun q e => by cases e)
  have d77 := ne_tab hC hd (fun q e => by cases e)
  obtain ⟨F₂, N₂⟩ := over F₁ N₁ hg70 (Nat.lt_trans (by decide) hL7) (fun p hp => by rcases List.mem_cons.mp hp with rfl | hp; exact a70; rw [List.mem_singleton.mp hp]; exact d70) hk₂
  have hC3 := code_keep (hC.keeps hk₁) (by decide) (by decide) hk₂
  have hp2 := (hp.keeps hk₁).keepBut (hC'.keeps hk₁) hk₂
  have k2 : ∀ b o, b ≠ 70 → s.heap.get? b = some o → s₂.heap.get? b = some o := fun b o n e => hk₂ b o n (hk₁ b o e)
  clear F₁ N₁ hk₂ hk₁
  generalize hb : ps.isEmpty = b at h ⊢
  cases b with
  | true =>
    k_steps
    exact h _ G₂ hos₂ hdr₂ (fun b o _ n e => k2 b o n e) ⟨_, hC3⟩ hC₂
  | false =>
    k_steps
    unfold Hold
    obtain ⟨qs2, hC₂⟩ := hC₂
    refine acc_str X' T' F₂.keep (by dsimp only; omega) (by dsimp only; omega) a d its n n2 hs t1 t2 ps qs (N₂.get (.head _)) (N₂.get (.tail _ (.head _))) hga hgd hz hp2 hC3 hg77 G₂ ?_
    intro t' s₃ G₃ hos₃ hdr₃ hk₃ hC₃
    obtain ⟨F₃, N₃⟩ := over F₂ N₂ hg77 hL7 (fun p hp => by rcases List.mem_cons.mp hp with rfl | hp; exact a77; rw [List.mem_singleton.mp hp]; exact d77) hk₃
    have hC4 := code_keep hC₂ (by decide) (by decide) hk₃
    have k3 : ∀ b o, b ≠ 77 → b ≠ 70 → s.heap.get? b = some o → s₃.heap.get? b = some o := fun b o n1 n2 e => hk₃ b o n1 (k2 b o n2 e)
    clear F₂ N₂ hk₃ k2
    k_steps
    exact h _ G₃ (hos₃.trans hos₂) (hdr₃.trans hdr₂) k3 hC₃ ⟨_, hC4⟩
end Mine
end

section
open PySem PySem.W PyProof.Rows PySem.Calls
namespace Mine
/-- a call of a def of the top with cells, its body walked over the heap less the objects it may change -/
theorem enterC {prog : Program} {w : World} {A : Around} {E : Value → Shared → Prop} {s : Shared} {K : Frag} {h₀ : Heap} {mg mb : Str → Option Value} {p : Program} {loose : List Str} {mean : ExcName → Option Value} {Q : Value → Shared → Prop} {as : List Addr}
    {name qual : Str} {params : Arguments} {body : List Stmt} {scope : Scope} {dV kV doc pm cdv ct oc : Value} {an od : Option Addr} {osl : Array (Option Value)} {f : Addr} {args : List Value} {binds : List (Str × Value)}
    (X : K.In h₀) (T : Top p loose mean mg mb h₀) (hk : ∀ b o, h₀.get? b = some o → s.heap.get? b = some o) (hna : ∀ a ∈ as, h₀.get? a = none)
    (ho : K.lookup f = some ⟨oc, od, .func (fnOf name qual params body scope dV kV doc pm an cdv ct), osl⟩) (hcd : codeIn K cdv qual = true) (hroom : A.depth < recursionLimit)
    (hbind : BindsTo s (fnOf name qual params body scope dV kV doc pm an cdv ct) ⟨args, []⟩ binds) (hkind : (binds.all fun y => scope.names.lookup y.1 == some .local || scope.names.lookup y.1 == some .cell) = true)
    (hnd : ((cellsFrom 0 scope.names []).map (·.1)).Nodup)
    (hco : scope.isCoroutine = false) (hgen : scope.isGenerator = false) (hkd : scope.kind = .function)
    (h : ∀ g L h₁ tk cells, g = hideAll s.heap as → L = s.heap.objs.size → Fr g L h₁ (bindL (envOfC qual scope L f cdv).kindOf binds fun _ => none) → (∀ b o, s.heap.get? b = some o → h₁.get? b = some o) → News g L h₁ cells → (∀ p ∈ cells, L < p.1) →
      CellsAre (bindC (envOfC qual scope L f cdv).kindOf binds fun _ => none) (cellsFrom (L + 1) scope.names []) cells → K.In g → Top p loose mean mg mb g →
      wpAny (model prog w) (A.deeper (envOfC qual scope L f cdv)) (execs body (envOfC qual scope L f cdv))
        (fun fl s' => Q (match fl with | .ret v => v | _ => .none) s') (fun _ _ => False)
        { s with heap := h₁, toks := tk }) : wpAny (model prog w) A (call (.ref f) args) Q E s := by
  have st : ∀ b o, h₀.get? b = some o → (hideAll s.heap as).get? b = some o := fun b o e => hideAll_get _ (hk b o e) fun q => by
    rw [hna b q] at e; cases e
  refine wpAny_call ?_
  refine codeAny_call_function hroom ((X.keeps hk) _ _ ho) rfl hco hgen rfl (codeRec_of (X.keeps hk) hcd) (hbind _ _ _ _ ?_)
  refine wpAny_newFunctionEnv_cells hkd (kindsX hkind _) fun env' he s' x => ?_
  subst he
  refine ⟨(T.nolimit.keeps hk).keeps x.toInCall.keep, codeAny_func ?_⟩
  obtain ⟨h₁, tk, rfl, _⟩ := x.done
  have hk₁ := x.toInCall.keep
  obtain ⟨cells, NC, Y⟩ := Cl.news (h₀ := s.heap) (Nat.le_refl _) fun n c hm => ⟨x.cell n c (lookup_of_mem_nodup (cellsFrom_names scope.names 0 (s.heap.objs.size + 1) [] [] rfl ▸ hnd) hm), x.above n c hm⟩
  have NC' : News (hideAll s.heap as) s.heap.objs.size h₁ cells := fun p hp => by
    refine ⟨(NC p hp).1, (NC p hp).2.1, ?_⟩
    cases q : (hideAll s.heap as).get? p.1 with
    | none => rfl
    | some o => have := of_hideAll _ q; rw [(NC p hp).2.2] at this; cases this
  have hlt : ∀ p ∈ cells, s.heap.objs.size < p.1 := by
    have go : ∀ {cs : List (Str × Addr)} {cells : List (Addr × Obj)} {cm : Str → Option Value}, CellsAre cm cs cells → (∀ n c, (n, c) ∈ cs → s.heap.objs.size < c) → ∀ p ∈ cells, s.heap.objs.size < p.1 := by
      intro cs cells cm Y
      induction Y with
      | nil => exact fun _ p hp => nomatch hp
      | cons _ _ ih =>
        intro a p hp
        rcases List.mem_cons.mp hp with rfl | hp
        · exact a _ _ (.head _)
        · exact ih (fun n c hm => a n c (.tail _ hm)) p hp
    exact go Y x.above
  refine wpAny_mono (h _ _ h₁ tk cells rfl rfl ⟨x.toInCall.ns, fun b o e => hk₁ b o (of_hideAll _ e), Nat.le_of_eq (hideAll_size _ _)⟩ hk₁ NC' hlt Y (X.keeps st) (T.keeps st)) (fun fl s' hl => ?_) fun _ _ y => y.elim
  cases fl <;> exact hl
end Mine
end

section
open PySem PySem.W PyProof.Rows PySem.Calls
namespace Mine
/-- a method of the class itself, met through an accumulator -/
theorem acc_method {w : World} {A : Around} {E : Value → Shared → Prop} {s : Shared} {a d f : Addr} {its : Array Value} {n n2 : Nat} {hs : Int} {t1 t2 : Tok} {name : Str} {pl : Sem Bool} {Q : Value × List Value → Shared → Prop} (X : (hd.heap_1 w.params).In s.heap) (ha : s.heap.get? a = some (accObj d its n)) (hdd : s.heap.get? d = some (accDict hs t1 t2 n2))
    (hf : findIn (hd.heap_1 w.params) (.ref 108) name = some (some (.ref f))) (ht : typeIn (hd.heap_1 w.params) (.ref f) = some (.type "function")) (hs' : shadowIn (some (accDict hs t1 t2 n2)) name = some false) (h : Q (.ref f, [.ref a]) s) :
    wpAny (M0 w) A (getMethod (.ref a) name pl) Q E s := by
  have I : InstAt s.heap a (accObj d its n) 108 (some (accDict hs t1 t2 n2)) := acc_inst ha hdd
  have hcan := canon_list_ga
  have hga : findIn (hd.heap_1 w.params) (.ref 108) "__getattribute__" = some (some (.builtin "list.__getattribute__")) := by kernel_rfl
  have hk : findIn (hd.heap_1 w.params) (.ref 108) "__getattr__" = some none := by kernel_rfl
  unfold getMethod specialOf
  refine wpAny_bind (wpAny_bind (I.type.here ((looks_findIn X hga).here ?_)))
  dsimp only
  rw [hcan, if_neg (by decide)]
  refine wpAny_bind (wpAny_bind (I.type.here ((looks_findIn X hk).here ?_)))
  refine wpAny_bind (wpAny_bind (I.type.here ((looks_findIn X hf).here (wpAny_bind ((looks_typeIn X ht).here ?_)))))
  rw [if_neg (by decide +kernel)]
  refine wpAny_bind (wpAny_loadPart I.at_ ?_)
  obtain ⟨r, q1, q2⟩ := Option.map_eq_some_iff.mp hs'
  refine wpAny_bind (wpAny_bind (wpAny_loadPart hdd ?_))
  rw [nsLook_of q1]
  refine wpAny_pure ?_
  rw [q2]
  exact wpAny_bind (wpAny_rule (wpAny_pure h))
end Mine
end

section
open PySem PySem.W PyProof.Rows PySem.Calls
namespace Mine
noncomputable def pairOf (c : Nat) : Str × Str := if c = 32 then (Str.ofString " ", Str.ofString "") else (Str.ofString "", ⟨#[c]⟩)
theorem pairOf_join (c : Nat) : Txt.join (Str.ofString "") [(pairOf c).1, (pairOf c).2] = ⟨#[c]⟩ := by
  unfold pairOf Txt.join
  by_cases h : c = 32
  · subst h; rfl
  · rw [if_neg h]; rfl
theorem join_signs : ∀ ws : List Nat, Str.join (Str.ofString "") (ws.map fun c => (⟨#[c]⟩ : Str)) = ⟨ws.toArray⟩
  | [] => rfl
  | [c] => rfl
  | c :: d :: r => by
    have ih := join_signs (d :: r)
    show (⟨#[c]⟩ : Str) ++ Str.ofString "" ++ Str.join (Str.ofString "") ((d :: r).map fun c => (⟨#[c]⟩ : Str)) = _
    rw [ih]
    show (⟨(#[c] ++ (Str.ofString "").cps) ++ (d :: r).toArray⟩ : Str) = ⟨(c :: d :: r).toArray⟩
    have e : (Str.ofString "").cps = #[] := by decide
    rw [e]
    simp
theorem pairText_of (ws : List Nat) : pairText (ws.map pairOf) = ⟨ws.toArray⟩ := by
  unfold pairText
  rw [List.map_map]
  have e : ((fun p : Str × Str => Txt.join (Str.ofString "") [p.1, p.2]) ∘ pairOf) = fun c => (⟨#[c]⟩ : Str) := funext pairOf_join
  rw [e]
  unfold Txt.join
  rw [StrLaws.glued_eq_join]
  exact join_signs ws
theorem pairOf_one (ws : List Nat) : ∀ p ∈ ws.map pairOf, p.1.length + p.2.length = 1 := by
  intro p hp
  obtain ⟨c, _, rfl⟩ := List.mem_map.mp hp
  unfold pairOf
  by_cases h : c = 32
  · subst h; rfl
  · rw [if_neg h]; rfl
end Mine
end

section
open PySem PySem.W PyProof.Rows PySem.Calls
namespace Mine
/-- the 15 stalks as words over true (blue) and false (red) -/
noncomputable def stalkWords : List (List Bool) := [[], [true], [false], [true, true], [true, false], [false, true], [false, false], [true, true, true], [true, true, false], [true, false, true], [true, false, false], [false, true, true], [false, true, false], [false, false, true], [false, false, false]]
noncomputable def theMarks : List Nat := [34, 92, 35, 97, 98]
noncomputable def textOf (mk : Nat) (e : List Bool) : List Nat := e.map fun b => if b then mk else 32
noncomputable def valueOf (mk : Nat) (ws : List Nat) : Int := (countsOf ws mk).getLastD 0
noncomputable def sufs : List Str := [Str.ofString "", Str.ofString ": .a", Str.ofString "\n.:"]
noncomputable def viewOf (mk mv : Nat) (ws : List Nat) : Str := Txt.replace ⟨ws.toArray⟩ (if mv = 0 then ⟨#[mk]⟩ else Str.ofString " ") (Str.ofString ".")
noncomputable def ownOf' (mk mv : Nat) (ws : List Nat) : Bool := ws.contains (if mv = 0 then mk else 32)
noncomputable def unitOf (mk : Nat) (ws : List Nat) : Int := ((countsOf ws mk).getD ws.length 0 - (countsOf ws mk).getD (ws.length - 1) 0).natAbs
noncomputable def sizeOf' (mk mv : Nat) (k : Nat) (ws : List Nat) : Nat := (stripF (viewOf mk mv ws ++ sufs.getD k Str.empty)).length + 1
/-- what one stalk shows to the mover -/
noncomputable def stalkOk (mk mv k : Nat) (e : List Bool) : Bool :=
  let ws := textOf mk e
  ((ws.isEmpty || Txt.isspace ⟨ws.toArray⟩) == !ws.contains mk) &&
  ((viewOf mk mv ws).cps.contains 46 == ownOf' mk mv ws) &&
  (countsOf ws mk).length == ws.length + 1 &&
  (if ownOf' mk mv ws then
    decide (sizeOf' mk mv k ws ≤ ws.length) && (valueOf mk (ws.take (ws.length - sizeOf' mk mv k ws)) == (if mv = 0 then valueOf mk ws - unitOf mk ws else valueOf mk ws + unitOf mk ws)) &&
    (unitOf mk ws == 4 || unitOf mk ws == 2 || unitOf mk ws == 1) && valueOf mk ws % unitOf mk ws == 0
  else (if mv = 0 then decide (valueOf mk ws ≤ 0) else decide (0 ≤ valueOf mk ws)) && valueOf mk ws % 4 == 0)
theorem stalks_ok : (theMarks.all fun mk => [0, 1].all fun mv => [0, 1, 2].all fun k => stalkWords.all fun e => stalkOk mk mv k e) = true := by decide +kernel
noncomputable def WinOf (mv : Nat) (total : Int) : Int := if mv = 0 then (if total > 0 then 0 else 1) else (if total < 0 then 1 else 0)
theorem win_end {mv : Nat} {total : Int} (hm : mv = 0 ∨ mv = 1) (h : mv = 0 → total ≤ 0) (h' : mv = 1 → 0 ≤ total) : WinOf mv total = 1 - mv := by
  unfold WinOf
  rcases hm with rfl | rfl
  · have := h rfl
    rw [if_pos rfl, if_neg (by omega)]; rfl
  · have := h' rfl
    rw [if_neg (by decide), if_neg (by omega)]; rfl
theorem win_step {mv : Nat} {total u : Int} (hm : mv = 0 ∨ mv = 1) (hu : u = 4 ∨ u = 2 ∨ u = 1) (hd : total % u = 0) : WinOf (1 - mv) (if mv = 0 then total - u else total + u) = WinOf mv total := by
  unfold WinOf
  rcases hm with rfl | rfl
  · simp only [Nat.sub_zero, if_true, Nat.succ_ne_zero, if_false]
    rcases hu with rfl | rfl | rfl <;> (split <;> split <;> omega)
  · simp only [Nat.sub_self, if_true, Nat.succ_ne_zero, if_false]
    rcases hu with rfl | rfl | rfl <;> (split <;> split <;> omega)
/-- a stalk's value is a multiple of the least unit -/
theorem unit_div {v u u' : Int} (hu : u = 4 ∨ u = 2 ∨ u = 1) (h : (u ≤ u' ∧ (u' = 4 ∨ u' = 2 ∨ u' = 1) ∧ v % u' = 0) ∨ v % 4 = 0) : v % u = 0 := by
  rcases h with ⟨a, b, c⟩ | h
  · refine Int.emod_eq_zero_of_dvd (Int.dvd_trans ?_ (Int.dvd_of_emod_eq_zero c))
    rcases hu with rfl | rfl | rfl <;> rcases b with rfl | rfl | rfl <;> first | decide | exact absurd a (by decide)
  · refine Int.emod_eq_zero_of_dvd (Int.dvd_trans ?_ (Int.dvd_of_emod_eq_zero h))
    rcases hu with rfl | rfl | rfl <;> decide
theorem sum_div {v0 v1 v2 u : Int} (h0 : v0 % u = 0) (h1 : v1 % u = 0) (h2 : v2 % u = 0) (hu : u = 4 ∨ u = 2 ∨ u = 1) : (v0 + v1 + v2) % u = 0 := by
  exact Int.emod_eq_zero_of_dvd (Int.dvd_add (Int.dvd_add (Int.dvd_of_emod_eq_zero h0) (Int.dvd_of_emod_eq_zero h1)) (Int.dvd_of_emod_eq_zero h2))
/-- the values behind each own edge of a stalk, taken with all above it -/
noncomputable def aftersOf (mk mv : Nat) (ws : List Nat) : List Int := ((List.range ws.length).filter fun j => (ws.getD j 0 == 32) == (mv == 1)).map fun j => valueOf mk (ws.take j)
noncomputable def sgn (mv : Nat) (v : Int) : Int := if mv = 0 then v else -v
noncomputable def triesOk (mk mv : Nat) (e : List Bool) : Bool :=
  let ws := textOf mk e
  ((List.range (ws.length + 1)).all fun a => (countsOf ws mk).getD a 0 == valueOf mk (ws.take a)) &&
  ((aftersOf mk mv ws).all fun x => decide (sgn mv x < sgn mv (valueOf mk ws))) &&
  (if (aftersOf mk mv ws).isEmpty then decide (sgn mv (valueOf mk ws) ≤ 0) && valueOf mk ws % 4 == 0
   else [1, 2, 4].any fun u => valueOf mk ws % u == 0 && (aftersOf mk mv ws).any fun x => sgn mv x == sgn mv (valueOf mk ws) - u)
theorem tries_ok : (theMarks.all fun mk => [0, 1].all fun mv => stalkWords.all fun e => triesOk mk mv e) = true := by decide +kernel
/-- one stalk, as trying sees it: its value, the values behind the mover's edges -/
structure Tried (v : Int) (af : List Int) : Prop where
  less : ∀ x ∈ af, x < v
  none : af = [] → v ≤ 0 ∧ v % 4 = 0
  some : af ≠ [] → ∃ u, (u = 1 ∨ u = 2 ∨ u = 4) ∧ v % u = 0 ∧ v - u ∈ af
theorem least2 {u v : Int} {p q : Prop} (lu : u ≤ 4) (lv : v ≤ 4) (hp : p ∨ u = 4) (hq : q ∨ v = 4) (h : p ∨ q) : (p ∧ u ≤ v) ∨ (q ∧ v ≤ u) := by
  rcases Int.le_total u v with a | a
  · rcases hp with hp | rfl
    · exact .inl ⟨hp, a⟩
    · rcases h with h | h
      · exact .inl ⟨h, a⟩
      · exact .inr ⟨h, lv⟩
  · rcases hq with hq | rfl
    · exact .inr ⟨hq, a⟩
    · rcases h with h | h
      · exact .inl ⟨h, lu⟩
      · exact .inr ⟨h, a⟩
theorem least3 {u0 u1 u2 : Int} {p0 p1 p2 : Prop} (l0 : u0 ≤ 4) (l1 : u1 ≤ 4) (l2 : u2 ≤ 4) (h0 : p0 ∨ u0 = 4) (h1 : p1 ∨ u1 = 4) (h2 : p2 ∨ u2 = 4) (h : p0 ∨ p1 ∨ p2) :
    (p0 ∧ u0 ≤ u1 ∧ u0 ≤ u2) ∨ (p1 ∧ u1 ≤ u0 ∧ u1 ≤ u2) ∨ (p2 ∧ u2 ≤ u0 ∧ u2 ≤ u1) := by
  rcases (or_assoc.mpr h) with h | h
  · rcases least2 l0 l1 h0 h1 h with ⟨q, a⟩ | ⟨q, a⟩
    · rcases least2 l0 l2 (.inl q) h2 (.inl q) with ⟨r, b⟩ | ⟨r, b⟩
      · exact .inl ⟨q, a, b⟩
      · exact .inr (.inr ⟨r, b, Int.le_trans b a⟩)
    · rcases least2 l1 l2 (.inl q) h2 (.inl q) with ⟨r, b⟩ | ⟨r, b⟩
      · exact .inr (.inl ⟨q, a, b⟩)
      · exact .inr (.inr ⟨r, Int.le_trans b a, b⟩)
  · rcases least2 l0 l2 h0 (.inl h) (.inr h) with ⟨q, a⟩ | ⟨q, a⟩
    · rcases least2 l0 l1 (.inl q) h1 (.inl q) with ⟨r, b⟩ | ⟨r, b⟩
      · exact .inl ⟨q, b, a⟩
      · exact .inr (.inl ⟨r, b, Int.le_trans b a⟩)
    · rcases least2 l1 l2 h1 (.inl h) (.inr h) with ⟨r, b⟩ | ⟨r, b⟩
      · exact .inr (.inl ⟨r, Int.le_trans b a, b⟩)
      · exact .inr (.inr ⟨h, a, b⟩)
theorem unit_dvd {t u v : Int} (ht : t = 1 ∨ t = 2 ∨ t = 4) (hu : u = 1 ∨ u = 2 ∨ u = 4) (hle : t ≤ u) (h : v % u = 0) : t ∣ v := by
  refine Int.dvd_trans ?_ (Int.dvd_of_emod_eq_zero h)
  rcases ht with rfl | rfl | rfl <;> rcases hu with rfl | rfl | rfl <;> first | decide | exact absurd hle (by decide)
theorem Tried.unit {v : Int} {f : List Int} (h : Tried v f) : ∃ u, (u = 1 ∨ u = 2 ∨ u = 4) ∧ v % u = 0 ∧ u ≤ 4 ∧ (v - u ∈ f ∨ u = 4) ∧ (v - u ∈ f ∨ v ≤ 0) := by
  by_cases e : f = []
  · exact ⟨4, .inr (.inr rfl), (h.none e).2, Int.le_refl _, .inr rfl, .inr (h.none e).1⟩
  · obtain ⟨u, a, b, c⟩ := h.some e
    exact ⟨u, a, b, by rcases a with rfl | rfl | rfl <;> decide, .inl c, .inl c⟩
theorem try_law {v0 v1 v2 : Int} {f0 f1 f2 : List Int} (h0 : Tried v0 f0) (h1 : Tried v1 f1) (h2 : Tried v2 f2) :
    ((∃ x ∈ f0, 0 ≤ x + v1 + v2) ∨ (∃ x ∈ f1, 0 ≤ v0 + x + v2) ∨ (∃ x ∈ f2, 0 ≤ v0 + v1 + x)) ↔ 0 < v0 + v1 + v2 := by
  constructor
  · rintro (⟨x, hx, h⟩ | ⟨x, hx, h⟩ | ⟨x, hx, h⟩)
    · have := h0.less x hx; omega
    · have := h1.less x hx; omega
    · have := h2.less x hx; omega
  · intro h
    have fin0 : ∀ u, v0 - u ∈ f0 → u ≤ v0 + v1 + v2 → ((∃ x ∈ f0, 0 ≤ x + v1 + v2) ∨ (∃ x ∈ f1, 0 ≤ v0 + x + v2) ∨ (∃ x ∈ f2, 0 ≤ v0 + v1 + x)) := fun u a b => .inl ⟨v0 - u, a, by omega⟩
    have fin1 : ∀ u, v1 - u ∈ f1 → u ≤ v0 + v1 + v2 → ((∃ x ∈ f0, 0 ≤ x + v1 + v2) ∨ (∃ x ∈ f1, 0 ≤ v0 + x + v2) ∨ (∃ x ∈ f2, 0 ≤ v0 + v1 + x)) := fun u a b => .inr (.inl ⟨v1 - u, a, by omega⟩)
    have fin2 : ∀ u, v2 - u ∈ f2 → u ≤ v0 + v1 + v2 → ((∃ x ∈ f0, 0 ≤ x + v1 + v2) ∨ (∃ x ∈ f1, 0 ≤ v0 + x + v2) ∨ (∃ x ∈ f2, 0 ≤ v0 + v1 + x)) := fun u a b => .inr (.inr ⟨v2 - u, a, by omega⟩)
    have key : ∀ t, t ∣ v0 → t ∣ v1 → t ∣ v2 → t ≤ v0 + v1 + v2 := fun t a b c => Int.le_of_dvd h (Int.dvd_add (Int.dvd_add a b) c)
    obtain ⟨u0, k0, b0, l0, m0, n0⟩ := h0.unit
    obtain ⟨u1, k1, b1, l1, m1, n1⟩ := h1.unit
    obtain ⟨u2, k2, b2, l2, m2, n2⟩ := h2.unit
    have some : v0 - u0 ∈ f0 ∨ v1 - u1 ∈ f1 ∨ v2 - u2 ∈ f2 := by
      rcases n0 with n0 | n0
      · exact .inl n0
      rcases n1 with n1 | n1
      · exact .inr (.inl n1)
      rcases n2 with n2 | n2
      · exact .inr (.inr n2)
      · omega
    rcases least3 l0 l1 l2 m0 m1 m2 some with ⟨q, a, b⟩ | ⟨q, a, b⟩ | ⟨q, a, b⟩
    · exact fin0 u0 q (key _ (unit_dvd k0 k0 (Int.le_refl _) b0) (unit_dvd k0 k1 a b1) (unit_dvd k0 k2 b b2))
    · exact fin1 u1 q (key _ (unit_dvd k1 k0 a b0) (unit_dvd k1 k1 (Int.le_refl _) b1) (unit_dvd k1 k2 b b2))
    · exact fin2 u2 q (key _ (unit_dvd k2 k0 a b0) (unit_dvd k2 k1 b b1) (unit_dvd k2 k2 (Int.le_refl _) b2))
end Mine
end

section
open PySem PySem.W PyProof.Rows PySem.Calls
namespace Mine
noncomputable def TupsAre (tups : List (Addr × Obj)) (its : Array Value) (ws : List Nat) : Prop :=
  its.size = ws.length ∧ ∀ (j c : Nat), ws[j]? = some c → ∃ (T : Addr) (tf tq : Tok) (nn : Nat), its[j]? = some (Value.ref T) ∧ (T, ({ cls := .type "tuple", data := .seq #[.str (pairOf c).1 tf, .str (pairOf c).2 tq] nn } : Obj)) ∈ tups
inductive HasStalk (A tups : List (Addr × Obj)) (a : Addr) (ws : List Nat) : Prop
  | mk : ∀ (d : Addr) (its : Array Value) (n n2 : Nat) (hs : Int) (t1 t2 : Tok), ((a, accObj d its n) ∈ A) → ((d, accDict hs t1 t2 n2) ∈ A) → (TupsAre tups its ws) → HasStalk A tups a ws
theorem news_add {g h h' : Heap} {L a : Addr} {o : Obj} {m : Str → Option Value} {news : List (Addr × Obj)} (F : Fr g L h m) (h0 : h.get? a = none) (ha : h'.get? a = some o) (N : News g L h' news) : News g L h' ((a, o) :: news) := by
  intro p hp
  rcases List.mem_cons.mp hp with rfl | hp
  · refine ⟨ha, ?_, ?_⟩
    · rintro rfl
      obtain ⟨_, _, _, e, _⟩ := F.ns
      rw [h0] at e; cases e
    · cases q : g.get? a with
      | none => rfl
      | some o' => rw [F.keep _ _ q] at h0; cases h0
  · exact N p hp
theorem news_but {g h h' : Heap} {L a : Addr} {news : List (Addr × Obj)} (N : News g L h news) (hk : ∀ b o, b ≠ a → h.get? b = some o → h'.get? b = some o) (hn : ∀ p ∈ news, @Ne Nat p.1 a) : News g L h' news := fun p hp => ⟨hk _ _ (hn p hp) (N p hp).1, (N p hp).2⟩
theorem fr_but {g h h' : Heap} {L a : Addr} {m : Str → Option Value} (F : Fr g L h m) (hk : ∀ b o, b ≠ a → h.get? b = some o → h'.get? b = some o) (haL : @Ne Nat a L) (hg : g.get? a = none) : Fr g L h' m :=
  ⟨F.ns.at' fun o e => hk _ _ (fun q => haL q.symm) e, fun b o e => hk b o (by rintro rfl; rw [hg] at e; cases e) (F.keep b o e), F.above⟩
theorem new_ne {g h : Heap} {L a : Addr} {news : List (Addr × Obj)} (N : News g L h news) (h0 : h.get? a = none) : ∀ p ∈ news, @Ne Nat p.1 a := fun p hp e => by
  have e : p.1 = a := e
  have := (N p hp).1
  rw [e, h0] at this; cases this
theorem news_set2 {g h h' : Heap} {L a : Addr} {o o' : Obj} {x : Addr × Obj} {rest : List (Addr × Obj)} (N : News g L h (x :: (a, o) :: rest)) (hk : ∀ b o, b ≠ a → h.get? b = some o → h'.get? b = some o) (hx : @Ne Nat x.1 a) (hr : ∀ p ∈ rest, @Ne Nat p.1 a) (ha : h'.get? a = some o') : News g L h' (x :: (a, o') :: rest) := by
  intro p hp
  rcases List.mem_cons.mp hp with rfl | hp
  · exact ⟨hk _ _ hx (N _ (.head _)).1, (N _ (.head _)).2⟩
  rcases List.mem_cons.mp hp with rfl | hp
  · exact ⟨ha, (N _ (.tail _ (.head _))).2⟩
  · exact ⟨hk _ _ (hr p hp) (N p (.tail _ (.tail _ hp))).1, (N p (.tail _ (.tail _ hp))).2⟩
theorem tups_push {tp : List (Addr × Obj)} {its : Array Value} {ws : List Nat} {c : Nat} {T : Addr} {tf tq : Tok} {nn : Nat} (x : TupsAre tp its ws) : TupsAre ((T, { cls := .type "tuple", data := .seq #[.str (pairOf c).1 tf, .str (pairOf c).2 tq] nn }) :: tp) (its.push (.ref T)) (ws ++ [c]) := by
  refine ⟨by simp [x.1], fun j c' e => ?_⟩
  by_cases hj : j < ws.length
  · rw [List.getElem?_append_left hj] at e
    obtain ⟨T', tf', tq', n', e1, e2⟩ := x.2 j c' e
    have hj' : j < its.size := x.1 ▸ hj
    exact ⟨T', tf', tq', n', by rw [Array.getElem?_push_lt hj']; rw [Array.getElem?_eq_getElem hj'] at e1; exact e1, .tail _ e2⟩
  · have hj2 : j = ws.length := by
      have := (List.getElem?_eq_some_iff.mp e).1
      simp at this; omega
    subst hj2
    simp at e
    subst e
    exact ⟨T, tf, tq, nn, by rw [← x.1]; simp, .head _⟩
theorem take_next {x : Str} {j c : Nat} (h : x.cps[j]? = some c) : x.cps.toList.take (j + 1) = x.cps.toList.take j ++ [c] := by
  have h' : x.cps.toList[j]? = some c := by simpa using h
  rw [List.take_succ, h']; rfl
theorem tups_push' {tp : List (Addr × Obj)} {its : Array Value} {x f q : Str} {j c : Nat} {T : Addr} {tf tq : Tok} {nn : Nat} {oT : Obj} (y : TupsAre tp its (x.cps.toList.take j)) (hc : x.cps[j]? = some c) (hoT : oT = { cls := .type "tuple", data := .seq #[.str f tf, .str q tq] nn }) (hf : pairOf c = (f, q)) : TupsAre ((T, oT) :: tp) (its.push (.ref T)) (x.cps.toList.take (j + 1)) := by
  rw [take_next hc, hoT]
  have := tups_push (c := c) (T := T) (tf := tf) (tq := tq) (nn := nn) y
  rw [hf] at this
  exact this
theorem tup_intro {h : Heap} {T : Addr} {o : Obj} (hT : h.get? T = some o) : ∃ o', h.get? T = some o' ∧ o' = o := ⟨o, hT, rfl⟩
theorem mid_mem {A tp tups : List (Addr × Obj)} {x p : Addr × Obj} (h : p ∈ A ++ (x :: tp ++ tups)) : p = x ∨ p ∈ A ++ (tp ++ tups) := by
  simp only [List.mem_append, List.mem_cons] at h ⊢
  rcases h with h | (h | h) | h
  · exact .inr (.inl h)
  · exact .inl h
  · exact .inr (.inr (.inl h))
  · exact .inr (.inr (.inr h))
theorem mid_nodup {A tp tups : List (Addr × Obj)} {x : Addr × Obj} (h : ((A ++ (tp ++ tups)).map (·.1)).Nodup) (hx : ∀ p ∈ A ++ (tp ++ tups), @Ne Nat p.1 x.1) : ((A ++ (x :: tp ++ tups)).map (·.1)).Nodup := by
  have hp : (A ++ (x :: tp ++ tups)).Perm (x :: (A ++ (tp ++ tups))) := by
    rw [List.cons_append]
    exact List.perm_middle
  refine (hp.map (·.1)).nodup_iff.mpr ?_
  rw [List.map_cons, List.nodup_cons]
  refine ⟨fun hm => ?_, h⟩
  obtain ⟨p, hp, e⟩ := List.mem_map.mp hm
  exact hx p hp e
theorem TupsAre.mono {tp tp' : List (Addr × Obj)} {its : Array Value} {ws : List Nat} (x : TupsAre tp its ws) (h : ∀ p ∈ tp, p ∈ tp') : TupsAre tp' its ws :=
  ⟨x.1, fun j c e => let ⟨T, tf, tq, nn, a, b⟩ := x.2 j c e; ⟨T, tf, tq, nn, a, h _ b⟩⟩
theorem HasStalk.mono {A A' tp tp' : List (Addr × Obj)} {a : Addr} {ws : List Nat} (x : HasStalk A tp a ws) (hA : ∀ p ∈ A, p ∈ A') (h : ∀ p ∈ tp, p ∈ tp') : HasStalk A' tp' a ws :=
  let ⟨d, its, n, n2, hs, t1, t2, e1, e2, e3⟩ := x; ⟨d, its, n, n2, hs, t1, t2, hA _ e1, hA _ e2, e3.mono h⟩
theorem two_nodup {R : List (Addr × Obj)} {x y : Addr × Obj} (h : (R.map (·.1)).Nodup) (hxy : @Ne Nat y.1 x.1) (hx : ∀ p ∈ R, @Ne Nat p.1 x.1) (hy : ∀ p ∈ R, @Ne Nat p.1 y.1) : ((x :: y :: R).map (·.1)).Nodup := by
  rw [List.map_cons, List.map_cons, List.nodup_cons, List.nodup_cons]
  refine ⟨fun hm => ?_, fun hm => ?_, h⟩
  · rcases List.mem_cons.mp hm with e | hm
    · exact hxy e.symm
    · obtain ⟨p, hp, e⟩ := List.mem_map.mp hm
      exact hx p hp e
  · obtain ⟨p, hp, e⟩ := List.mem_map.mp hm
    exact hy p hp e
theorem is_blank {c : Nat} (h : (({ cps := #[c] } : Str) == Str.ofString " ") = true) : c = 32 := by
  have e : ({ cps := #[c] } : Str) = Str.ofString " " := eq_of_beq h
  have e2 : (#[c] : Array Nat) = #[32] := congrArg Str.cps e
  simpa using e2
theorem no_blank {c : Nat} (h : (({ cps := #[c] } : Str) == Str.ofString " ") = false) : c ≠ 32 := by
  rintro rfl
  exact absurd h (by decide)
theorem pairOf_le (c : Nat) : (pairOf c).1.length ≤ 1 ∧ (pairOf c).2.length ≤ 1 := by
  unfold pairOf
  by_cases h : c = 32
  · subst h; exact ⟨by decide, by decide⟩
  · rw [if_neg h]; exact ⟨by show (Str.ofString "").length ≤ 1; decide, Nat.le_refl 1⟩
theorem TupsAre.pairs {g h : Heap} {L : Addr} {tups : List (Addr × Obj)} {its : Array Value} {ws : List Nat} (x : TupsAre tups its ws) (N : News g L h tups) : Pairs h its (ws.map pairOf) := by
  refine ⟨by rw [List.length_map]; exact x.1, fun j p e => ?_⟩
  rw [List.getElem?_map] at e
  obtain ⟨c, e1, rfl⟩ := Option.map_eq_some_iff.mp e
  obtain ⟨T, tf, tq, nn, e2, e3⟩ := x.2 j c e1
  exact ⟨(pairOf_le c).1, (pairOf_le c).2, T, tf, tq, nn, e2, (N _ e3).1⟩
/-- a growing code table, as the ledger keeps it -/
noncomputable def TabIs (o : Obj) : Prop := ∃ qs, o.data = .fields qs ∧ TriplesOk qs.toList ∧ o = { cls := .none, data := .fields qs }
noncomputable def CodeKnown (g : Heap) (c P : Addr) : Prop := ∀ (h : Heap) (o : Obj), (∀ b o, g.get? b = some o → h.get? b = some o) → h.get? P = some o → TabIs o → ∃ qs, IsCodeT h c P qs
theorem codeKnown_of {s g : Heap} {c P : Addr} {qs : Array Value} (hC : IsCodeT s c P qs) (hg : ∀ o, s.get? c = some o → g.get? c = some o) : CodeKnown g c P := by
  obtain ⟨⟨o, vs, file, tf, flags, tg, inF, text, tt, op, a, r1, r2, r3, r4, r5, r6, b, r7, r8, r9⟩, ⟨o2, vs2, b1, b2⟩, b3⟩ := hC
  rintro h o' hk ho' ⟨qs', hd', ht', rfl⟩
  exact ⟨qs', ⟨o, vs, file, tf, flags, tg, inF, text, tt, _, hk _ _ (hg _ a), r1, r2, r3, r4, r5, r6, ho', hd', ht', r9⟩, ⟨o2, vs2, hk _ _ (hg _ b1), b2⟩, ho'⟩
theorem CodeKnown.here {g h : Heap} {L : Addr} {m : Str → Option Value} {c P : Addr} {o : Obj} {news : List (Addr × Obj)} (x : CodeKnown g c P) (F : Fr g L h m) (N : News g L h news) (hm : (P, o) ∈ news) (ht : TabIs o) : ∃ qs, IsCodeT h c P qs :=
  x h o F.keep (N _ hm).1 ht
theorem tab_of_code {h : Heap} {c P : Addr} (hC : ∃ qs, IsCodeT h c P qs) : ∃ o, h.get? P = some o ∧ TabIs o := by
  obtain ⟨qs, ⟨o, vs, file, tf, flags, tg, inF, text, tt, op, a, r1, r2, r3, r4, r5, r6, b, r7, r8, r9⟩, _, b3⟩ := hC
  exact ⟨_, b3, qs, rfl, r8, rfl⟩
theorem tab_ne {g h : Heap} {L P : Addr} {o : Obj} {news : List (Addr × Obj)} (N : News g L h news) (hm : (P, o) ∈ news) (ht : TabIs o) {p : Addr × Obj} (hp : p ∈ news) (hd : ∀ q, p.2.data ≠ .fields q) : p.1 ≠ P := by
  intro e
  have h1 := (N p hp).1
  rw [e, (N _ hm).1] at h1
  obtain ⟨qs, a, _⟩ := ht
  exact hd qs (by rw [← Option.some.inj h1]; exact a)
/-- behind a call that turned the table at P alone (and made new objects) -/
theorem over_tab {g h h' : Heap} {L P : Addr} {o : Obj} {m : Str → Option Value} {pre post : List (Addr × Obj)} (F : Fr g L h m) (N : News g L h (pre ++ (P, o) :: post)) (ht : TabIs o) (hPL : @LT.lt Nat _ P L) (hp : ∀ p ∈ pre ++ post, ∀ q, p.2.data ≠ .fields q)
    (hk : ∀ b o, b ≠ P → h.get? b = some o → h'.get? b = some o) {o' : Obj} (ho' : h'.get? P = some o') : Fr g L h' m ∧ News g L h' (pre ++ (P, o') :: post) := by
  have hP := (N (P, o) (List.mem_append_right _ (.head _))).2.2
  have hm : ∀ p ∈ pre ++ post, p ∈ pre ++ (P, o) :: post := fun p q => by
    rcases List.mem_append.mp q with q | q
    · exact List.mem_append_left _ q
    · exact List.mem_append_right _ (.tail _ q)
  obtain ⟨F', N'⟩ := over (news := pre ++ post) F (news_sub N hm) hP hPL (fun p q => tab_ne N (List.mem_append_right _ (.head _)) ht (hm p q) (hp p q)) hk
  refine ⟨F', fun p q => ?_⟩
  rcases List.mem_append.mp q with q | q
  · exact N' p (List.mem_append_left _ q)
  rcases List.mem_cons.mp q with rfl | q
  · exact ⟨ho', Nat.ne_of_lt hPL, hP⟩
  · exact N' p (List.mem_append_right _ q)
/-- the body of a def's first while -/
noncomputable def whileBody (l : List Stmt) : List Stmt := blockFrom 2 l
theorem fn_inj {K : Frag} {f : Addr} {oc od osl name qual params body scope dV kV doc pm an cdv ct oc' od' osl' name' qual' params' body' scope' dV' kV' doc' pm' an' cdv' ct'}
    (h : K.lookup f = some ⟨oc, od, .func (fnOf name qual params body scope dV kV doc pm an cdv ct), osl⟩) (h' : K.lookup f = some ⟨oc', od', .func (fnOf name' qual' params' body' scope' dV' kV' doc' pm' an' cdv' ct'), osl'⟩) :
    qual' = qual ∧ body' = body ∧ scope' = scope ∧ cdv' = cdv := by
  rw [h] at h'
  injection h' with h'
  injection h' with _ _ h'
  injection h' with h'
  injection h' with _ h2 _ h4 h5 _ _ _ _ _ _ _ h13
  injection h4 with h4
  exact ⟨h2.symm, h4.symm, h5.symm, h13.symm⟩
/-- the totals of the first k stalks -/
noncomputable def totV (ms : Nat → Nat) (ws : Nat → List Nat) (k : Nat) : Int := ((List.range k).map fun j => valueOf (ms j) (ws j)).sum
theorem totV_succ (ms : Nat → Nat) (ws : Nat → List Nat) (k : Nat) : totV ms ws (k + 1) = totV ms ws k + valueOf (ms k) (ws k) := by simp [totV, List.range_succ, Int.add_zero]
noncomputable def moveAt (ms : Nat → Nat) (ws : Nat → List Nat) (mv k : Nat) : Option (Int × Nat × Nat) := if ownOf' (ms k) mv (ws k) then some (unitOf (ms k) (ws k), k, sizeOf' (ms k) mv k (ws k)) else none
noncomputable def movesOf (ms : Nat → Nat) (ws : Nat → List Nat) (mv k : Nat) : List (Int × Nat × Nat) := (List.range k).filterMap (moveAt ms ws mv)
theorem movesOf_succ (ms : Nat → Nat) (ws : Nat → List Nat) (mv k : Nat) : movesOf ms ws mv (k + 1) = movesOf ms ws mv k ++ (moveAt ms ws mv k).toList := by
  unfold movesOf
  rw [List.range_succ, List.filterMap_append]
  congr 1
theorem movesOf_len (ms : Nat → Nat) (ws : Nat → List Nat) (mv k : Nat) : (movesOf ms ws mv k).length ≤ k := by
  unfold movesOf
  exact Nat.le_trans (List.length_filterMap_le _ _) (by simp)
noncomputable def moveObj (x : Int × Nat × Nat) (t1 t2 t3 : Tok) (n : Nat) : Obj := { cls := .type "tuple", data := .seq #[.int x.1 t1, .int x.2.1 t2, .int x.2.2 t3] n }
noncomputable def MovesAre (T : List (Addr × Obj)) (items : Array Value) (mvs : List (Int × Nat × Nat)) : Prop :=
  items.size = mvs.length ∧ ∀ (j : Nat) (x : Int × Nat × Nat), mvs[j]? = some x → ∃ (a : Addr) (t1 t2 t3 : Tok) (n : Nat), items[j]? = some (.ref a) ∧ (a, moveObj x t1 t2 t3 n) ∈ T
theorem MovesAre.push {T : List (Addr × Obj)} {items : Array Value} {mvs : List (Int × Nat × Nat)} {x : Int × Nat × Nat} {a : Addr} {t1 t2 t3 : Tok} {n : Nat} (y : MovesAre T items mvs) : MovesAre ((a, moveObj x t1 t2 t3 n) :: T) (items.push (.ref a)) (mvs ++ [x]) := by
  refine ⟨by simp [y.1], fun j c' e => ?_⟩
  by_cases hj : j < mvs.length
  · rw [List.getElem?_append_left hj] at e
    obtain ⟨T', t1', t2', t3', n', e1, e2⟩ := y.2 j c' e
    have hj' : j < items.size := y.1 ▸ hj
    exact ⟨T', t1', t2', t3', n', by rw [Array.getElem?_push_lt hj']; rw [Array.getElem?_eq_getElem hj'] at e1; exact e1, .tail _ e2⟩
  · have hj2 : j = mvs.length := by
      have := (List.getElem?_eq_some_iff.mp e).1
      simp at this; omega
    subst hj2
    simp at e
    subst e
    exact ⟨a, t1, t2, t3, n, by rw [← y.1]; simp, .head _⟩
/-- one stalk of the play -/
noncomputable def StalkW (mk : Nat) (w : List Nat) : Prop := mk ∈ theMarks ∧ ∃ e ∈ stalkWords, w = textOf mk e
theorem StalkW.len {mk : Nat} {w : List Nat} (x : StalkW mk w) : w.length ≤ 3 := by
  obtain ⟨_, e, he, rfl⟩ := x
  unfold textOf
  rw [List.length_map]
  have : (stalkWords.all fun e => decide (e.length ≤ 3)) = true := by decide
  exact of_decide_eq_true (List.all_eq_true.mp this e he)
theorem StalkW.ok {mk : Nat} {w : List Nat} (x : StalkW mk w) {mv k : Nat} (hmv : mv = 0 ∨ mv = 1) (hk : k < 3) : ∃ e, w = textOf mk e ∧ stalkOk mk mv k e = true := by
  obtain ⟨h1, e, he, rfl⟩ := x
  refine ⟨e, rfl, ?_⟩
  have h := List.all_eq_true.mp stalks_ok mk h1
  have h := List.all_eq_true.mp h mv (by rcases hmv with rfl | rfl <;> simp)
  have h := List.all_eq_true.mp h k (by simp; omega)
  exact List.all_eq_true.mp h e he
/-- an item of a list at a place in bounds -/
theorem item_at {prog : Program} {w : World} {A : Around} {E : Value → Shared → Prop} {s : Shared} {value slice : Expr} {l : Addr} {items : Array Value} {k : Nat} {u : Tok} {v : Value} {Q : Value → Shared → Prop} (hl : s.heap.IsList l items) (hx : items[k]? = some v) (hz : k < 1000) (h : Q v s)
    (hs : subscripted slice false (.ref l) (.int k u) = operate [.ref l, .int k u] (getItem (.ref l) (.int k u)) := by with_unfolding_all rfl) :
    wpAny (model prog w) A (subscriptTail value slice (.ref l) (.int k u)) Q E s :=
  tail_any hl.typeIs slot_list_getitem.lookup (wpAny_getItem_list hl (by omega) (by omega) (by simpa using hx) h) hs
theorem three_at {f : Nat → Value} {k : Nat} (hk : k < 3) : (#[f 0, f 1, f 2] : Array Value)[k]? = some (f k) := by
  rcases lt3 hk with rfl | rfl | rfl <;> rfl
/-- neither a list nor a code table -/
noncomputable def Solid (o : Obj) : Prop := (∀ q, o.data ≠ .fields q) ∧ o.cls ≠ .type "list"
theorem ne_obj {g h : Heap} {L M : Addr} {o : Obj} {news : List (Addr × Obj)} (N : News g L h news) (hm : (M, o) ∈ news) {p : Addr × Obj} (hp : p ∈ news) (hne : p.2 ≠ o) : p.1 ≠ M := by
  intro e
  have h1 := (N p hp).1
  rw [e, (N _ hm).1] at h1
  exact hne (Option.some.inj h1).symm
theorem Solid.ne_list {o : Obj} {its : Array Value} {n : Nat} (x : Solid o) : o ≠ listOf its n := fun e => x.2 (by rw [e])
theorem solid_move {x : Int × Nat × Nat} {t1 t2 t3 : Tok} {n : Nat} : Solid (moveObj x t1 t2 t3 n) := ⟨fun q e => (by cases e), fun e => (by simp [moveObj] at e)⟩
theorem over_upd {g h h' : Heap} {L P : Addr} {o o' : Obj} {m : Str → Option Value} {news news' : List (Addr × Obj)} (F : Fr g L h m) (N : News g L h news) (U : Upd P o o' news news') (hPL : @LT.lt Nat _ P L)
    (hk : ∀ b o, b ≠ P → h.get? b = some o → h'.get? b = some o) (ho' : h'.get? P = some o') : Fr g L h' m ∧ News g L h' news' := by
  obtain ⟨pre, post, rfl, rfl, p1, p2⟩ := U.split
  have hP := (N (P, o) (List.mem_append_right _ (.head _))).2.2
  have hm : ∀ p ∈ pre ++ post, p ∈ pre ++ (P, o) :: post := fun p q => by
    rcases List.mem_append.mp q with q | q
    · exact List.mem_append_left _ q
    · exact List.mem_append_right _ (.tail _ q)
  obtain ⟨F', N'⟩ := over (news := pre ++ post) F (news_sub N hm) hP hPL (fun p q => by
    rcases List.mem_append.mp q with q | q
    · exact p1 p q
    · exact p2 p q) hk
  refine ⟨F', fun p q => ?_⟩
  rcases List.mem_append.mp q with q | q
  · exact N' p (List.mem_append_left _ q)
  rcases List.mem_cons.mp q with rfl | q
  · exact ⟨ho', Nat.ne_of_lt hPL, hP⟩
  · exact N' p (List.mem_append_right _ q)
theorem cstep_len (w0 mk : Nat) : ∀ (w : List Nat) (st : Int × List Int), (w.foldl (cstep w0 mk) st).2.length = st.2.length + w.length
  | [], st => rfl
  | c :: r, st => by rw [List.foldl_cons, cstep_len w0 mk r]; simp [cstep]; omega
theorem counts_length (w : List Nat) (mk : Nat) : (countsOf w mk).length = w.length + 1 := by
  unfold countsOf; rw [cstep_len]; simp; omega
theorem counts_len (w : List Nat) (mk : Nat) (vs : List Value) (h : IntsAre vs (countsOf w mk)) : (countsOf w mk).length = w.length + 1 ∧ vs.length = w.length + 1 := ⟨counts_length w mk, by rw [h.length, counts_length]⟩
theorem getD_last (zs : List Int) : zs.getD (-1 + (zs.length : Int)).toNat 0 = zs.getLastD 0 := by
  have : (-1 + (zs.length : Int)).toNat = zs.length - 1 := by omega
  rw [this, List.getLastD_eq_getLast?, List.getLast?_eq_getElem?, List.getD_eq_getElem?_getD]
theorem upd_mem {d : Addr} {o o' : Obj} {l l' : List (Addr × Obj)} (U : Upd d o o' l l') : ∀ p ∈ l', p = (d, o') ∨ (p ∈ l ∧ p.1 ≠ d) := by
  obtain ⟨pre, post, rfl, rfl, p1, p2⟩ := U.split
  intro p hp
  rcases List.mem_append.mp hp with q | q
  · exact .inr ⟨List.mem_append_left _ q, p1 p q⟩
  rcases List.mem_cons.mp q with rfl | q
  · exact .inl rfl
  · exact .inr ⟨List.mem_append_right _ (.tail _ q), p2 p q⟩
theorem upd_old {d : Addr} {o o' : Obj} {l l' : List (Addr × Obj)} (U : Upd d o o' l l') : (d, o) ∈ l := by
  obtain ⟨pre, post, rfl, rfl, p1, p2⟩ := U.split
  exact List.mem_append_right _ (.head _)
theorem over_upd2 {g h h' : Heap} {L P R : Addr} {o o' r r' : Obj} {m : Str → Option Value} {news news₁ news' : List (Addr × Obj)} (F : Fr g L h m) (N : News g L h news) (U : Upd P o o' news news₁) (V : Upd R r r' news₁ news') (hPL : @LT.lt Nat _ P L) (hRL : @LT.lt Nat _ R L) (hPR : P ≠ R)
    (hk : ∀ b o, b ≠ P → b ≠ R → h.get? b = some o → h'.get? b = some o) (ho' : h'.get? P = some o') (hr' : h'.get? R = some r') : Fr g L h' m ∧ News g L h' news' := by
  have hP := (N _ (upd_old U)).2.2
  have hR : g.get? R = none := by
    rcases upd_mem U _ (upd_old V) with e | e
    · exact absurd (congrArg Prod.fst e).symm hPR
    · exact (N _ e.1).2.2
  refine ⟨⟨F.ns.at' fun o e => hk _ _ (Nat.ne_of_gt hPL) (Nat.ne_of_gt hRL) e, fun b o e => hk b o (by rintro rfl; rw [hP] at e; cases e) (by rintro rfl; rw [hR] at e; cases e) (F.keep b o e), F.above⟩, fun p q => ?_⟩
  rcases upd_mem V p q with rfl | ⟨q, n2⟩
  · exact ⟨hr', Nat.ne_of_lt hRL, hR⟩
  rcases upd_mem U p q with rfl | ⟨q, n1⟩
  · exact ⟨ho', Nat.ne_of_lt hPL, hP⟩
  · exact ⟨hk _ _ n1 n2 (N p q).1, (N p q).2⟩
noncomputable def stalkOk2 (mk mv : Nat) (e : List Bool) : Bool :=
  let ws := textOf mk e
  ((((ws.map pairOf).isEmpty || Txt.isspace ⟨ws.toArray⟩) != !!(Builtin.Str.occurrences ⟨ws.toArray⟩ ⟨#[mk]⟩ 0 (⟨ws.toArray⟩ : Str).length 1).isEmpty) == false) &&
  ((!(Builtin.Str.occurrences (viewOf mk mv ws) (Str.ofString ".") 0 (viewOf mk mv ws).length 1).isEmpty) == ownOf' mk mv ws) &&
  decide ((viewOf mk mv ws).length ≤ 3) && ((⟨#[mk]⟩ : Str) == Str.ofString ".") == false
theorem stalks_ok2 : (theMarks.all fun mk => [0, 1].all fun mv => stalkWords.all fun e => stalkOk2 mk mv e) = true := by decide +kernel
theorem StalkW.ok2 {mk : Nat} {w : List Nat} (x : StalkW mk w) {mv : Nat} (hmv : mv = 0 ∨ mv = 1) :
    (((w.map pairOf).isEmpty || Txt.isspace ⟨w.toArray⟩) != !!(Builtin.Str.occurrences ⟨w.toArray⟩ ⟨#[mk]⟩ 0 (⟨w.toArray⟩ : Str).length 1).isEmpty) = false ∧
    (!(Builtin.Str.occurrences (viewOf mk mv w) (Str.ofString ".") 0 (viewOf mk mv w).length 1).isEmpty) = ownOf' mk mv w ∧ (viewOf mk mv w).length ≤ 3 ∧ ((⟨#[mk]⟩ : Str) == Str.ofString ".") = false := by
  obtain ⟨h1, e, he, rfl⟩ := x
  have h := List.all_eq_true.mp stalks_ok2 mk h1
  have h := List.all_eq_true.mp h mv (by rcases hmv with rfl | rfl <;> simp)
  have h := List.all_eq_true.mp h e he
  simp only [stalkOk2, Bool.and_eq_true, beq_iff_eq, decide_eq_true_eq] at h
  obtain ⟨⟨⟨a, b⟩, c⟩, d⟩ := h
  refine ⟨a, b, c, ?_⟩
  cases q : ((⟨#[mk]⟩ : Str) == Str.ofString ".") with
  | false => rfl
  | true => exact absurd (beq_iff_eq.mp q) (by simpa using d)
theorem suf_at {i : Nat} {t1 t2 t3 : Tok} (h : @LT.lt Nat _ i 3) : (#[.str (Str.ofString "") t1, .str (Str.ofString ": .a") t2, .str (Str.ofString "\n.:") t3] : Array Value)[i]? = some (.str (sufs.getD i Str.empty) (if i = 0 then t1 else if i = 1 then t2 else t3)) := by
  match i, h with
  | 0, _ => rfl
  | 1, _ => rfl
  | 2, _ => rfl
theorem suf_len (i : Nat) : (sufs.getD i Str.empty).length ≤ 4 := by
  match i with
  | 0 => decide
  | 1 => decide
  | 2 => decide
  | n + 3 => show Str.empty.length ≤ 4; decide
theorem own_pos {mk mv : Nat} {w : List Nat} (h : ownOf' mk mv w = true) : 1 ≤ w.length := by
  cases w with
  | nil => simp [ownOf'] at h
  | cons a r => simp
theorem str_add_len (x y : Str) : (x ++ y).length = x.length + y.length := Array.size_append
theorem StalkW.own {mk mv k : Nat} {w : List Nat} (x : StalkW mk w) (hmv : mv = 0 ∨ mv = 1) (hk : @LT.lt Nat _ k 3) (ho : ownOf' mk mv w = true) :
    sizeOf' mk mv k w ≤ w.length ∧ valueOf mk (w.take (w.length - sizeOf' mk mv k w)) = (if mv = 0 then valueOf mk w - unitOf mk w else valueOf mk w + unitOf mk w) ∧ (unitOf mk w = 4 ∨ unitOf mk w = 2 ∨ unitOf mk w = 1) ∧ valueOf mk w % unitOf mk w = 0 := by
  obtain ⟨e, rfl, h⟩ := x.ok hmv hk
  simp only [stalkOk, Bool.and_eq_true, beq_iff_eq, decide_eq_true_eq, ho, if_true, Bool.or_eq_true] at h
  obtain ⟨_, ⟨⟨a, b⟩, c⟩, d⟩ := h
  refine ⟨a, b, ?_, d⟩
  rcases c with (c | c) | c
  · exact .inl c
  · exact .inr (.inl c)
  · exact .inr (.inr c)
theorem StalkW.foreign {mk mv : Nat} {w : List Nat} (x : StalkW mk w) (hmv : mv = 0 ∨ mv = 1) (ho : ownOf' mk mv w = false) : (mv = 0 → valueOf mk w ≤ 0) ∧ (mv = 1 → 0 ≤ valueOf mk w) ∧ valueOf mk w % 4 = 0 := by
  obtain ⟨e, rfl, h⟩ := x.ok hmv (show 0 < 3 by decide)
  simp only [stalkOk, Bool.and_eq_true, beq_iff_eq, ho, Bool.false_eq_true, if_false] at h
  obtain ⟨_, a, b⟩ := h
  refine ⟨fun e => ?_, fun e => ?_, b⟩
  · rw [if_pos e] at a; exact of_decide_eq_true a
  · rw [if_neg (by omega)] at a; exact of_decide_eq_true a
theorem takes_ok : (stalkWords.all fun e => (List.range 4).all fun j => stalkWords.contains (e.take j)) = true := by decide +kernel
theorem StalkW.take {mk : Nat} {w : List Nat} (x : StalkW mk w) {j : Nat} (hj : j ≤ w.length) : StalkW mk (w.take j) := by
  have hl := x.len
  obtain ⟨h1, e, he, rfl⟩ := x
  refine ⟨h1, e.take j, ?_, by simp [textOf, List.map_take]⟩
  have h := List.all_eq_true.mp takes_ok e he
  have h := List.all_eq_true.mp h j (by simp; omega)
  simpa using h
theorem abs_if (x : Int) : (if x < 0 then -x else x) = (x.natAbs : Int) := by split <;> omega
theorem unit_is {mk : Nat} {w : List Nat} (h : 1 ≤ w.length) : (if (countsOf w mk).getD (-1 + ((countsOf w mk).length : Int)).toNat 0 - (countsOf w mk).getD (-2 + ((countsOf w mk).length : Int)).toNat 0 < 0 then -((countsOf w mk).getD (-1 + ((countsOf w mk).length : Int)).toNat 0 - (countsOf w mk).getD (-2 + ((countsOf w mk).length : Int)).toNat 0) else (countsOf w mk).getD (-1 + ((countsOf w mk).length : Int)).toNat 0 - (countsOf w mk).getD (-2 + ((countsOf w mk).length : Int)).toNat 0) = unitOf mk w := by
  rw [abs_if, counts_length]
  unfold unitOf
  have e1 : (-1 + ((w.length + 1 : Nat) : Int)).toNat = w.length := by omega
  have e2 : (-2 + ((w.length + 1 : Nat) : Int)).toNat = w.length - 1 := by omega
  rw [e1, e2]
theorem size_is {mk mv k : Nat} {w : List Nat} {y : Str} (h : y = stripF (viewOf mk mv w ++ sufs.getD k Str.empty)) : y.length + 1 = sizeOf' mk mv k w := by rw [h]; rfl
theorem move_eq {mk mv k : Nat} {w : List Nat} {y : Str} {t1 t2 t3 : Tok} {n : Nat} (hwp : 1 ≤ w.length) (hsz : y.length + 1 = sizeOf' mk mv k w) :
    ({ cls := .type "tuple", data := .seq #[.int (if (countsOf w mk).getD (-1 + ((countsOf w mk).length : Int)).toNat 0 - (countsOf w mk).getD (-2 + ((countsOf w mk).length : Int)).toNat 0 < 0 then -((countsOf w mk).getD (-1 + ((countsOf w mk).length : Int)).toNat 0 - (countsOf w mk).getD (-2 + ((countsOf w mk).length : Int)).toNat 0) else (countsOf w mk).getD (-1 + ((countsOf w mk).length : Int)).toNat 0 - (countsOf w mk).getD (-2 + ((countsOf w mk).length : Int)).toNat 0) t1, .int (k : Nat) t2, .int (y.length + 1) t3] n } : Obj) = moveObj (unitOf mk w, k, sizeOf' mk mv k w) t1 t2 t3 n := by
  rw [unit_is hwp, ← hsz]; rfl
theorem moves_own {ms : Nat → Nat} {ws : Nat → List Nat} {mv k : Nat} {T : List (Addr × Obj)} {items : Array Value} {a : Addr} {t1 t2 t3 : Tok} {n : Nat} (h : ownOf' (ms k) mv (ws k) = true) (x : MovesAre T items (movesOf ms ws mv k)) :
    MovesAre ((a, moveObj (unitOf (ms k) (ws k), k, sizeOf' (ms k) mv k (ws k)) t1 t2 t3 n) :: T) (items.push (.ref a)) (movesOf ms ws mv (k + 1)) := by
  rw [movesOf_succ, moveAt, if_pos h]
  exact x.push
theorem moves_not {ms : Nat → Nat} {ws : Nat → List Nat} {mv k : Nat} {T : List (Addr × Obj)} {items : Array Value} (h : ownOf' (ms k) mv (ws k) = false) (x : MovesAre T items (movesOf ms ws mv k)) : MovesAre T items (movesOf ms ws mv (k + 1)) := by
  rw [movesOf_succ, moveAt, if_neg (by rw [h]; decide)]
  simpa using x
theorem tot_next (ms : Nat → Nat) (ws : Nat → List Nat) (k : Nat) : totV ms ws k + (countsOf (ws k) (ms k)).getD (-1 + ((countsOf (ws k) (ms k)).length : Int)).toNat 0 = totV ms ws (k + 1) := by
  rw [totV_succ, valueOf, getD_last]
end Mine
end

section
open PySem PySem.W PyProof.Rows PySem.Calls
namespace Mine
/-- (a1, a2, _) < (b1, b2, _), the second ones apart -/
theorem tup_lt {prog : Program} {w : World} {A : Around} {E : Value → Shared → Prop} {s : Shared} {p q : Addr} {a1 a2 a3 b1 b2 b3 : Int} {t1 t2 t3 u1 u2 u3 : Tok} {Q : Value → Shared → Prop} (hu : A.units < cLine)
    (hp : s.heap.IsTuple p #[.int a1 t1, .int a2 t2, .int a3 t3]) (hq : s.heap.IsTuple q #[.int b1 u1, .int b2 u2, .int b3 u3]) (hne : a2 ≠ b2)
    (h : Q (.bool (decide (a1 < b1) || (a1 == b1 && decide (a2 < b2)))) s) : wpAny (model prog w) A (richCompare .Lt (.ref p) (.ref q)) Q E s := by
  have hTp : s.TypeIs (.ref p) "tuple" := let ⟨o, ho, hc, _⟩ := hp; ⟨o, ho, hc⟩
  have hTq : s.TypeIs (.ref q) "tuple" := let ⟨o, ho, hc, _⟩ := hq; ⟨o, ho, hc⟩
  obtain ⟨op, hop, _, np, hdp⟩ := id hp
  obtain ⟨oq, hoq, _, nq, hdq⟩ := id hq
  refine wpAny_richCompare_same_or hTp hTq PySem.F.slot_tuple_lt (wpAny_call_entry PySem.F.slot_tuple_lt hTp PySem.F.entry_tuple_lt ?_ (PySem.F.args_tuple_lt_2 _ _)) (.inr hu)
  with_unfolding_all refine wpAny_bind (wpAny_pure ?_)
  dsimp only
  refine wpAny_bind (wpAny_isInstance (T := "tuple") (b := true) hTq (by rw [isSubtype_type]; kernel_rfl) ?_)
  rw [if_neg (by decide)]
  unfold Builtin.Tuple.tupleItemsOf
  refine wpAny_bind (wpAny_bind (wpAny_seqItems hop hdp (wpAny_pure ?_)))
  refine wpAny_bind (wpAny_bind (wpAny_seqItems hoq hdq (wpAny_pure ?_)))
  simp only [List.zip_cons_cons, List.zip_nil_right, List.forIn_cons, List.forIn_nil]
  refine wpAny_bind (wpAny_bind (wpAny_bind (wpAny_eqBool_int ?_)))
  by_cases e1 : a1 = b1
  · subst e1
    have z1 : (a1 == a1) = true := beq_self_eq_true a1
    rw [z1, if_neg (by decide)]
    refine wpAny_pure (wpAny_bind (wpAny_bind (wpAny_eqBool_int ?_)))
    have z2 : (a2 == b2) = false := beq_eq_false_iff_ne.mpr hne
    rw [z2, if_pos (by rfl)]
    refine wpAny_bind (wpAny_rule (wpAny_bind (wpAny_lt_int ?_)))
    refine wpAny_bind (wpAny_pure (wpAny_pure (wpAny_pure (wpAny_pure ⟨_, rfl, by simp, ?_⟩))))
    rw [z1] at h
    simpa using h
  · have z1 : (a1 == b1) = false := beq_eq_false_iff_ne.mpr e1
    rw [z1, if_pos (by rfl)]
    refine wpAny_bind (wpAny_rule (wpAny_bind (wpAny_lt_int ?_)))
    refine wpAny_bind (wpAny_pure (wpAny_pure (wpAny_pure (wpAny_pure ⟨_, rfl, by simp, ?_⟩))))
    rw [z1] at h
    simpa using h
end Mine
end

section
open PySem PySem.W PyProof.Rows PySem.Calls
namespace Mine
section
variable {prog : Program} {w : World} {A : Around} {I : Addr} {fp wr : List Addr} {n : Nat} {P : Nat → Value → Prop} {St : Nat → Heap → Prop} {R : Result → Shared → Prop}
/-- comparing two items of a walk, the heap read -/
noncomputable def CmpAt (prog : Program) (w : World) (A : Around) (P : Nat → Value → Prop) (St : Nat → Heap → Prop) (bt : Nat → Nat → Bool) : Prop :=
  ∀ r i j vi vj (s : Shared) (Q : Value → Shared → Prop) (E : Value → Shared → Prop), St r s.heap → j < i → P i vi → P j vj → Q (.bool (bt i j)) s → wpAny (model prog w) A (richCompare .Lt vi vj) Q E s
theorem best_le (bt : Nat → Nat → Bool) : ∀ j, argBest bt j ≤ j
  | 0 => Nat.le_refl _
  | j + 1 => by unfold argBest; split; exact Nat.le_refl _; exact Nat.le_succ_of_le (best_le bt j)
theorem min_loop (W : Walks prog w A.in1 I fp wr n P St) (bt : Nat → Nat → Bool) (hcmp : CmpAt prog w A.in1 P St bt) (S : Addr) (hSf : S ∉ fp) :
    ∀ (k j : Nat) (s : Shared) (vb : Value) (c : Nat), n - (j + 1) = k → j + 1 ≤ n → St (j + 1) s.heap → P (argBest bt j) vb → s.heap.get? S = some { cls := .type "list", dict := none, data := .seq #[vb, vb] c, slots := #[] } →
    (∀ v h' tk, P (argBest bt (n - 1)) v → (∀ b o, b ∉ wr → b ≠ S → s.heap.get? b = some o → h'.get? b = some o) → R (.ok (.ret v)) { s with heap := h', toks := tk }) →
    codeAny (model prog w) A (.builtin "min.loop" ⟨[.ref I, .none, .ref S], []⟩) R s := by
  have hSw : S ∉ wr := fun h => hSf (W.sub _ h)
  have hname : (toString "min" ++ toString ".loop" : String) = "min.loop" := by decide
  intro k
  induction k with
  | zero =>
    intro j s vb c hk hj hst hPb hS hR
    have hin : j + 1 = n := by omega
    refine codeAny_builtin PySem.F.entry_min_loop ?_
    rw [Around.under_plainId PySem.F.plain_min_loop _]
    show wpAny _ A.in1 (seqItems? (.ref S) >>= _) _ _ s
    refine wpAny_bind (wpAny_seqItems hS rfl ?_)
    show wpAny _ A.in1 (tryCatch (pyNext (.ref I)) _ >>= _) _ _ s
    refine wpAny_bind (wpAny_tryCatch (W.done s _ _ (hin ▸ hst) fun h' tk hk' => ?_))
    have hS' := hk' S _ hSw hS
    show wpAny _ A.in1 (updateSeq S (fun _ => #[]) >>= _) _ _ _
    refine wpAny_bind (wpAny_updateSeq hS' rfl (wpAny_bind (wpAny_letGo (wpAny_pure ?_))))
    exact hR vb _ tk (by rw [← hin]; exact hPb) fun b o hbw hbS e => (Heap.get?_update_other _ _ (Ne.symm hbS)).trans (hk' b o hbw e)
  | succ k ih =>
    intro j s vb c hk hj hst hPb hS hR
    have hlt : j + 1 < n := by omega
    refine codeAny_builtin PySem.F.entry_min_loop ?_
    rw [Around.under_plainId PySem.F.plain_min_loop _]
    show wpAny _ A.in1 (seqItems? (.ref S) >>= _) _ _ s
    refine wpAny_bind (wpAny_seqItems hS rfl ?_)
    show wpAny _ A.in1 (tryCatch (pyNext (.ref I)) _ >>= _) _ _ s
    refine wpAny_bind (wpAny_tryCatch (W.item (j + 1) s _ _ hlt hst fun v h' tk hP hst' hk' => ?_))
    have hS' := hk' S _ hSw hS
    show wpAny _ A.in1 (tryCatch (holding [v, v] (richCompare .Lt v vb >>= _)) _ >>= _) _ _ _
    refine wpAny_bind (wpAny_tryCatch (wpAny_holding (wpAny_bind (hcmp _ (j + 1) (argBest bt j) v vb _ _ _ hst' (Nat.lt_succ_of_le (best_le bt j)) hP hPb ?_))))
    refine wpAny_bind (wpAny_holding (wpAny_truthy_bool ?_))
    refine wpAny_bind (wpAny_letGo (wpAny_pure ?_))
    cases hb : bt (j + 1) (argBest bt j) with
    | true =>
      simp only [if_true]
      refine wpAny_bind (wpAny_updateSeq hS' rfl (wpAny_bind (wpAny_letGo ?_)))
      rw [hname]
      refine wpAny_pure ⟨plainId_quiet PySem.F.plain_min_loop _, ih (j + 1) _ v _ (by omega) hlt (W.frame _ _ _ hst' fun b hbf o e => (Heap.get?_update_other _ _ (fun h : S = b => hSf (by rw [h]; exact hbf))).trans e) (by simp only [argBest, hb, if_true]; exact hP) (Heap.get?_update_self _ hS' rfl)
        fun v' h'' tk'' hP' hk'' => hR v' h'' tk'' hP' fun b o hbw hbS e => hk'' b o hbw hbS ((Heap.get?_update_other _ _ (Ne.symm hbS)).trans (hk' b o hbw e))⟩
    | false =>
      simp only [Bool.false_eq_true, if_false]
      refine wpAny_bind (wpAny_letGo ?_)
      rw [hname]
      exact wpAny_pure ⟨plainId_quiet PySem.F.plain_min_loop _, ih (j + 1) _ vb c (by omega) hlt hst' (by simp only [argBest, hb, Bool.false_eq_true, if_false]; exact hPb) hS' fun v' h'' tk'' hP' hk'' => hR v' h'' tk'' hP' fun b o hbw hbS e => hk'' b o hbw hbS (hk' b o hbw e)⟩
theorem min_first (W : Walks prog w A.in1 I fp wr n P St) (bt : Nat → Nat → Bool) (hcmp : CmpAt prog w A.in1 P St bt) (S : Addr) (hSf : S ∉ fp) (hn : 0 < n) {s : Shared} {c : Nat} (hst : St 0 s.heap)
    (hS : s.heap.get? S = some { cls := .type "list", dict := none, data := .seq #[] c, slots := #[] })
    (hR : ∀ v h' tk, P (argBest bt (n - 1)) v → (∀ b o, b ∉ wr → b ≠ S → s.heap.get? b = some o → h'.get? b = some o) → R (.ok (.ret v)) { s with heap := h', toks := tk }) :
    codeAny (model prog w) A (.builtin "min.loop" ⟨[.ref I, .none, .ref S], []⟩) R s := by
  have hSw : S ∉ wr := fun h => hSf (W.sub _ h)
  have hname : (toString "min" ++ toString ".loop" : String) = "min.loop" := by decide
  refine codeAny_builtin PySem.F.entry_min_loop ?_
  rw [Around.under_plainId PySem.F.plain_min_loop _]
  show wpAny _ A.in1 (seqItems? (.ref S) >>= _) _ _ s
  refine wpAny_bind (wpAny_seqItems hS rfl ?_)
  show wpAny _ A.in1 (tryCatch (pyNext (.ref I)) _ >>= _) _ _ s
  refine wpAny_bind (wpAny_tryCatch (W.item 0 s _ _ hn hst fun v h' tk hP hst' hk' => ?_))
  have hS' := hk' S _ hSw hS
  show wpAny _ A.in1 (updateSeq S (fun _ => #[v, v]) >>= _) _ _ _
  refine wpAny_bind (wpAny_updateSeq hS' rfl ?_)
  rw [hname]
  exact wpAny_pure ⟨plainId_quiet PySem.F.plain_min_loop _, min_loop W bt hcmp S hSf _ 0 _ v _ rfl hn (W.frame _ _ _ hst' fun b hbf o e => (Heap.get?_update_other _ _ (fun h : S = b => hSf (by rw [h]; exact hbf))).trans e) hP (Heap.get?_update_self _ hS' rfl)
    fun v' h'' tk'' hP' hk'' => hR v' h'' tk'' hP' fun b o hbw hbS e => hk'' b o hbw hbS ((Heap.get?_update_other _ _ (Ne.symm hbS)).trans (hk' b o hbw e))⟩
end
/-- min(list), its items compared over the heap -/
theorem call_min_at {prog : Program} {w : World} {A : Around} {E : Value → Shared → Prop} {s : Shared} {l : Addr} {items : Array Value} {Q : Value → Shared → Prop} (hh : A.handled = none) (hl : s.heap.IsList l items) (hn : 0 < items.size) (Keep : Heap → Prop) (hKeep : ∀ h h', Keep h → (∀ b o, b < s.heap.objs.size → h.get? b = some o → h'.get? b = some o) → Keep h') (h0 : Keep s.heap)
    (bt : Nat → Nat → Bool) (hcmp : ∀ i j vi vj (s : Shared) (Q : Value → Shared → Prop) (E : Value → Shared → Prop), Keep s.heap → j < i → items[i]? = some vi → items[j]? = some vj → Q (.bool (bt i j)) s → wpAny (model prog w) A.in1 (richCompare .Lt vi vj) Q E s)
    (hQ : ∀ v h' tk, items[argBest bt (items.size - 1)]? = some v → (∀ b o, s.heap.get? b = some o → h'.get? b = some o) → Q v { s with heap := h', toks := tk }) :
    wpAny (model prog w) A (call (.builtin "min") [.ref l]) Q E s := by
  have hname : (toString "min" ++ toString ".loop" : String) = "min.loop" := by decide
  have hlt : l < s.heap.objs.size := let ⟨_, e, _⟩ := hl; Heap.lt_size e
  refine call_function_tree PySem.F.kind_min PySem.F.plain_min PySem.F.entry_min (PySem.F.args_min1 _) ?_
  show wpAny _ A.in1 (Builtin.Builtins.bindParams "min" ["key", "default"] 0 ⟨[], []⟩ >>= _) _ _ s
  refine wpAny_bind (wpAny_of_eq (show Builtin.Builtins.bindParams "min" ["key", "default"] 0 ⟨[], []⟩ = pure [none, none] from rfl) ?_)
  refine wpAny_bind (wpAny_pure ?_)
  refine wpAny_bind (wpAny_pyIter_list hl ?_)
  refine wpAny_bind (wpAny_newObj_type ?_)
  rw [hname]
  have W := Walks.list (prog := prog) (w := w) (A := A.in1) hh s.heap.objs.size l (Nat.ne_of_lt hlt) items
  have W' : Walks prog w A.in1 s.heap.objs.size (s.heap.objs.size :: l :: List.range s.heap.objs.size) [s.heap.objs.size] items.size (fun i v => items[i]? = some v) (fun i h => (h.IsListIter s.heap.objs.size l i ∧ h.IsList l items) ∧ Keep h) :=
    { sub := fun b hb => by rw [List.mem_singleton.mp hb]; exact .head _
      frame := fun i h h' st hk => ⟨W.frame i h h' st.1 fun b hb o e => hk b (by
          rcases List.mem_cons.mp hb with rfl | hb
          · exact .head _
          · rw [List.mem_singleton.mp hb]; exact .tail _ (.head _)) o e, hKeep h h' st.2 fun b o hb e => hk b (.tail _ (.tail _ (List.mem_range.mpr hb))) o e⟩
      item := fun i s' Q E hi st hQ => W.item i s' Q E hi st.1 fun v h' tk hP hst' hk' => hQ v h' tk hP ⟨hst', hKeep _ _ st.2 fun b o hb e => hk' b o (fun q => Nat.ne_of_lt hb (List.mem_singleton.mp q)) e⟩ hk'
      done := fun s' Q E st hQ => W.done s' Q E st.1 hQ
      self := fun i s' Q E st hQ => W.self i s' Q E st.1 hQ }
  have sz : (s.heap.push { cls := .type "list_iterator", data := .fields #[.ref l, .int 0 0] }).objs.size = s.heap.objs.size + 1 := Heap.size_push ..
  refine wpAny_pure ⟨plainId_quiet PySem.F.plain_min_loop _, min_first W' bt (fun r i j vi vj s' Q' E' st hji hi hj q => hcmp i j vi vj s' Q' E' st.2 hji hi hj q) _ ?_ hn ?_ (Heap.get?_push_size _ rfl) fun v h' tk hP hk' => ?_⟩
  · show (s.heap.push _).objs.size ∉ _
    rw [sz]
    intro hm
    rcases List.mem_cons.mp hm with e | hm
    · exact Nat.succ_ne_self _ e
    rcases List.mem_cons.mp hm with e | hm
    · have hlt' : @LT.lt Nat _ l s.heap.objs.size := hlt
      have e' : @Eq Nat (s.heap.objs.size + 1) l := e
      omega
    · have := List.mem_range.mp hm; omega
  · exact ⟨⟨⟨_, Heap.get?_push_of_some _ (Heap.get?_push_size _ rfl), rfl, rfl⟩, (hl.push _).push _⟩, hKeep _ _ h0 fun b o _ e => Heap.get?_push_of_some _ (Heap.get?_push_of_some _ e)⟩
  · refine hQ v h' tk hP fun b o e => hk' b o (fun q => ?_) (fun q => ?_) (Heap.get?_push_of_some _ (Heap.get?_push_of_some _ e))
    · exact Nat.ne_of_lt (Heap.lt_size e) (List.mem_singleton.mp q)
    · have this : @LT.lt Nat _ b s.heap.objs.size := Heap.lt_size e
      have q : @Eq Nat b (s.heap.push { cls := .type "list_iterator", data := .fields #[.ref l, .int 0 0] }).objs.size := q
      rw [sz] at q
      omega
end Mine
end

section
open PySem PySem.W PyProof.Rows PySem.Calls
namespace Mine
theorem best_min (a : Nat → Int) (bt : Nat → Nat → Bool) (h1 : ∀ i j, bt i j = true → a i ≤ a j) (h2 : ∀ i j, bt i j = false → a j ≤ a i) : ∀ j i, i ≤ j → a (argBest bt j) ≤ a i
  | 0, i, h => by
    have : i = 0 := by omega
    subst this
    exact Int.le_refl _
  | j + 1, i, h => by
    have ih := best_min a bt h1 h2 j
    unfold argBest
    cases hb : bt (j + 1) (argBest bt j) with
    | true =>
      rw [if_pos rfl]
      by_cases e : i = j + 1
      · subst e; exact Int.le_refl _
      · exact Int.le_trans (h1 _ _ hb) (ih i (by omega))
    | false =>
      rw [if_neg (by decide)]
      by_cases e : i = j + 1
      · subst e; exact h2 _ _ hb
      · exact ih i (by omega)
theorem totV3 (ms : Nat → Nat) (ws : Nat → List Nat) : totV ms ws 3 = valueOf (ms 0) (ws 0) + valueOf (ms 1) (ws 1) + valueOf (ms 2) (ws 2) := by
  rw [totV_succ, totV_succ, totV_succ]; simp [totV]
theorem moves_mem {ms : Nat → Nat} {ws : Nat → List Nat} {mv : Nat} {x : Int × Nat × Nat} (h : x ∈ movesOf ms ws mv 3) : ∃ k, @LT.lt Nat _ k 3 ∧ ownOf' (ms k) mv (ws k) = true ∧ x = (unitOf (ms k) (ws k), k, sizeOf' (ms k) mv k (ws k)) := by
  obtain ⟨k, hk, e⟩ := List.mem_filterMap.mp h
  unfold moveAt at e
  split at e
  · rename_i ho
    exact ⟨k, List.mem_range.mp hk, ho, (Option.some.inj e).symm⟩
  · cases e
theorem mem_moves {ms : Nat → Nat} {ws : Nat → List Nat} {mv k : Nat} (hk : @LT.lt Nat _ k 3) (ho : ownOf' (ms k) mv (ws k) = true) : (unitOf (ms k) (ws k), k, sizeOf' (ms k) mv k (ws k)) ∈ movesOf ms ws mv 3 :=
  List.mem_filterMap.mpr ⟨k, List.mem_range.mpr hk, by rw [moveAt, if_pos ho]⟩
theorem play_end {ms : Nat → Nat} {ws : Nat → List Nat} {mv : Nat} (hmv : mv = 0 ∨ mv = 1) (hw : ∀ j, j < 3 → StalkW (ms j) (ws j)) (h : movesOf ms ws mv 3 = []) : WinOf mv (totV ms ws 3) = 1 - mv := by
  have f : ∀ j, @LT.lt Nat _ j 3 → ownOf' (ms j) mv (ws j) = false := fun j hj => by
    cases e : ownOf' (ms j) mv (ws j) with
    | false => rfl
    | true => have := mem_moves hj e; rw [h] at this; cases this
  have f0 := (hw 0 (by decide)).foreign hmv (f 0 (by decide))
  have f1 := (hw 1 (by decide)).foreign hmv (f 1 (by decide))
  have f2 := (hw 2 (by decide)).foreign hmv (f 2 (by decide))
  rw [totV3]
  refine win_end hmv (fun e => ?_) fun e => ?_
  · have := f0.1 e; have := f1.1 e; have := f2.1 e; omega
  · have := f0.2.1 e; have := f1.2.1 e; have := f2.2.1 e; omega
noncomputable def cutAt (ws : Nat → List Nat) (k n : Nat) : Nat → List Nat := fun j => if j = k then (ws k).take n else ws j
theorem play_step {ms : Nat → Nat} {ws : Nat → List Nat} {mv k : Nat} (hmv : mv = 0 ∨ mv = 1) (hw : ∀ j, j < 3 → StalkW (ms j) (ws j)) (hk : @LT.lt Nat _ k 3) (ho : ownOf' (ms k) mv (ws k) = true)
    (hmin : ∀ y ∈ movesOf ms ws mv 3, unitOf (ms k) (ws k) ≤ y.1) :
    (∀ j, j < 3 → StalkW (ms j) (cutAt ws k ((ws k).length - sizeOf' (ms k) mv k (ws k)) j)) ∧
    totV ms (cutAt ws k ((ws k).length - sizeOf' (ms k) mv k (ws k))) 3 = (if mv = 0 then totV ms ws 3 - unitOf (ms k) (ws k) else totV ms ws 3 + unitOf (ms k) (ws k)) ∧
    WinOf (1 - mv) (totV ms (cutAt ws k ((ws k).length - sizeOf' (ms k) mv k (ws k))) 3) = WinOf mv (totV ms ws 3) := by
  obtain ⟨a, b, c, d⟩ := (hw k hk).own hmv hk ho
  have e : totV ms (cutAt ws k ((ws k).length - sizeOf' (ms k) mv k (ws k))) 3 = (if mv = 0 then totV ms ws 3 - unitOf (ms k) (ws k) else totV ms ws 3 + unitOf (ms k) (ws k)) := by
    rw [totV3, totV3]
    rcases lt3 (i := k) (by omega) with rfl | rfl | rfl
    all_goals simp only [cutAt, if_true, Nat.succ_ne_zero, if_false, Nat.zero_ne_one, (show (0 : Nat) ≠ 2 by decide), (show (1 : Nat) ≠ 2 by decide), (show (2 : Nat) ≠ 1 by decide), (show (2 : Nat) ≠ 0 by decide), (show (1 : Nat) ≠ 0 by decide)]
    all_goals rw [b]
    all_goals (split <;> omega)
  refine ⟨fun j hj => ?_, e, ?_⟩
  · unfold cutAt
    by_cases q : j = k
    · subst q; rw [if_pos rfl]; exact (hw j hj).take (Nat.sub_le _ _)
    · rw [if_neg q]; exact hw j hj
  · rw [e]
    refine win_step hmv c ?_
    rw [totV3]
    have one : ∀ j, @LT.lt Nat _ j 3 → valueOf (ms j) (ws j) % unitOf (ms k) (ws k) = 0 := fun j hj => by
      cases q : ownOf' (ms j) mv (ws j) with
      | false => exact unit_div (u' := 4) c (.inr ((hw j hj).foreign hmv q).2.2)
      | true =>
        have o := (hw j hj).own hmv hj q
        exact unit_div c (.inl ⟨hmin _ (mem_moves hj q), o.2.2.1, o.2.2.2⟩)
    exact sum_div (one 0 (by decide)) (one 1 (by decide)) (one 2 (by decide)) c
/-- the stalks behind a cut -/
noncomputable def reA (A : List (Addr × Obj)) (a : Addr) (o : Obj) : List (Addr × Obj) := A.map fun p => if p.1 = a then (a, o) else p
theorem reA_mem {A : List (Addr × Obj)} {a : Addr} {o : Obj} {p : Addr × Obj} (h : p ∈ reA A a o) : p = (a, o) ∨ (p ∈ A ∧ p.1 ≠ a) := by
  obtain ⟨q, hq, e⟩ := List.mem_map.mp h
  by_cases h1 : q.1 = a
  · rw [if_pos h1] at e; exact .inl e.symm
  · rw [if_neg h1] at e; subst e; exact .inr ⟨hq, h1⟩
theorem mem_reA {A : List (Addr × Obj)} {a : Addr} {o : Obj} {p : Addr × Obj} (h : p ∈ A) (h1 : p.1 ≠ a) : p ∈ reA A a o :=
  List.mem_map.mpr ⟨p, h, if_neg h1⟩
theorem reA_self {A : List (Addr × Obj)} {a : Addr} {o o' : Obj} (h : (a, o') ∈ A) : (a, o) ∈ reA A a o :=
  List.mem_map.mpr ⟨(a, o'), h, if_pos rfl⟩
theorem TupsAre.cut {tups : List (Addr × Obj)} {its : Array Value} {ws : List Nat} {n : Nat} (x : TupsAre tups its ws) (hn : n ≤ ws.length) : TupsAre tups (its.extract 0 n) (ws.take n) := by
  refine ⟨by simp [x.1], fun j c e => ?_⟩
  have hj : j < n := by
    have := (List.getElem?_eq_some_iff.mp e).1
    simp at this; omega
  rw [List.getElem?_take_of_lt hj] at e
  obtain ⟨T, tf, tq, nn, e1, e2⟩ := x.2 j c e
  refine ⟨T, tf, tq, nn, ?_, e2⟩
  rw [Array.getElem?_extract]
  simp only [Nat.zero_add, Nat.sub_zero]
  rw [if_pos (by rw [x.1]; omega)]
  exact e1
/-- between two moves -/
inductive PlayInv (g : Heap) (L ls lm lh : Addr) (om oh : Obj) (ns nm : Nat) (as : Nat → Addr) (ms : Nat → Nat) (mt : Nat → Tok) (tups : List (Addr × Obj)) (win : Int) (d : Drawn) (os : OsState) (k : Nat) (s : Shared) : Prop
  | mk : ∀ (m : Str → Option Value) (A : List (Addr × Obj)) (ws : Nat → List Nat) (mv : Nat) (due : Int) (tv td : Tok) (o77 o70 : Obj), (Fr g L s.heap m) → (News g L s.heap ((ls, refsO as ns) :: (L + 1 + 1, om) :: (lh, oh) :: (lm, marksO ms mt nm) :: (77, o77) :: (70, o70) :: (A ++ tups))) → (TabIs o77) → (TabIs o70) → ((∀ j, j < 3 → HasStalk A tups (as j) (ws j))) → ((∀ p ∈ A ++ tups, Solid p.2)) → (m (Str.ofString "stalks") = some (.ref ls)) → (m (Str.ofString "mover") = some (.int mv tv)) → (m (Str.ofString "due") = some (.int due td)) → ((mv = 0 ∨ mv = 1)) → ((∀ j, j < 3 → StalkW (ms j) (ws j))) → (due = totV ms ws 3) → (AllBare s.gens) → ((∀ j, j < 3 → @LT.lt Nat _ (mt j) s.toks)) → (s.drawn = d) → (s.os = os) → (WinOf mv due = win) → (k = (ws 0).length + (ws 1).length + (ws 2).length) → PlayInv g L ls lm lh om oh ns nm as ms mt tups win d os k s
/-- behind the play -/
inductive PlayEnd (g : Heap) (L lm lh : Addr) (oh : Obj) (nm : Nat) (ms : Nat → Nat) (mt : Nat → Tok) (win : Int) (d : Drawn) (os : OsState) (v : Value) (s : Shared) : Prop
  | mk : ∀ (m : Str → Option Value) (t : Tok) (o77 o70 : Obj), (v = .int win t) → (Fr g L s.heap m) → (News g L s.heap ((lh, oh) :: (lm, marksO ms mt nm) :: (77, o77) :: (70, o70) :: [])) → (TabIs o77) → (TabIs o70) → (AllBare s.gens) → (s.drawn = d) → (s.os = os) → PlayEnd g L lm lh oh nm ms mt win d os v s
theorem moves_ks (ms : Nat → Nat) (ws : Nat → List Nat) (mv : Nat) : ∀ n, ((movesOf ms ws mv n).map (·.2.1)).Nodup ∧ ∀ x ∈ movesOf ms ws mv n, x.2.1 < n
  | 0 => ⟨by simp [movesOf], fun x hx => by simp [movesOf] at hx⟩
  | n + 1 => by
    obtain ⟨a, b⟩ := moves_ks ms ws mv n
    rw [movesOf_succ]
    cases h : moveAt ms ws mv n with
    | none => simp; exact ⟨a, fun x y z hx => Nat.lt_succ_of_lt (b _ hx)⟩
    | some y =>
      have hy : y.2.1 = n := by
        unfold moveAt at h
        split at h
        · rw [← Option.some.inj h]
        · cases h
      refine ⟨?_, fun x hx => ?_⟩
      · rw [Option.toList_some, List.map_append, List.nodup_append]
        refine ⟨a, by simp, fun u hu v hv e => ?_⟩
        obtain ⟨x, hx, rfl⟩ := List.mem_map.mp hu
        simp at hv
        have := b x hx
        omega
      · rcases List.mem_append.mp hx with hx | hx
        · exact Nat.lt_succ_of_lt (b _ hx)
        · simp at hx; rw [hx, hy]; exact Nat.lt_succ_self _
theorem play_min {prog : Program} {w : World} {A : Around} {E : Value → Shared → Prop} {s : Shared} {M : Addr} {items : Array Value} {MT : List (Addr × Obj)} {X : List (Int × Nat × Nat)} {Q : Value → Shared → Prop} (hh : A.handled = none) (hu : A.in1.units < cLine) (hl : s.heap.IsList M items) (hM : MovesAre MT items X) (hX : X ≠ [])
    (hks : (X.map (·.2.1)).Nodup) (hMT : ∀ p ∈ MT, s.heap.get? p.1 = some p.2)
    (hQ : ∀ T x t1 t2 t3 n h' tk, x ∈ X → (∀ y ∈ X, x.1 ≤ y.1) → (T, moveObj x t1 t2 t3 n) ∈ MT → (∀ b o, s.heap.get? b = some o → h'.get? b = some o) → Q (.ref T) { s with heap := h', toks := tk }) :
    wpAny (model prog w) A (call (.builtin "min") [.ref M]) Q E s := by
  obtain ⟨x0, hx0⟩ : ∃ x0, x0 ∈ X := by cases X with | nil => exact absurd rfl hX | cons a r => exact ⟨a, .head _⟩
  have hlen : 0 < X.length := List.length_pos_of_mem hx0
  have at_ : ∀ (i : Nat) (v : Value), items[i]? = some v → ∃ (x : Int × Nat × Nat) (T : Addr) (t1 t2 t3 : Tok) (n : Nat), X[i]? = some x ∧ v = .ref T ∧ (T, moveObj x t1 t2 t3 n) ∈ MT := by
    intro i v e
    have hi : i < X.length := by
      have := (Array.getElem?_eq_some_iff.mp e).1
      rw [hM.1] at this; exact this
    obtain ⟨T, t1, t2, t3, n, e1, e2⟩ := hM.2 i X[i] (by simp)
    rw [e] at e1
    exact ⟨X[i], T, t1, t2, t3, n, by simp, Option.some.inj e1, e2⟩
  refine call_min_at hh hl (by rw [hM.1]; exact hlen) (fun h => ∀ p ∈ MT, h.get? p.1 = some p.2) (fun h h' k kk p hp => kk _ _ (Heap.lt_size (hMT p hp)) (k p hp)) hMT
    (fun i j => decide ((X.getD i x0).1 < (X.getD j x0).1) || ((X.getD i x0).1 == (X.getD j x0).1 && decide (((X.getD i x0).2.1 : Int) < ((X.getD j x0).2.1 : Int)))) ?_ ?_
  · intro i j vi vj s₁ Q₁ E₁ hk hji hvi hvj hq
    obtain ⟨x, T, t1, t2, t3, n, e1, rfl, e2⟩ := at_ i vi hvi
    obtain ⟨y, U, u1, u2, u3, k, f1, rfl, f2⟩ := at_ j vj hvj
    have g1 : X.getD i x0 = x := by rw [List.getD_eq_getElem?_getD, e1]; rfl
    have g2 : X.getD j x0 = y := by rw [List.getD_eq_getElem?_getD, f1]; rfl
    simp only [g1, g2] at hq
    refine tup_lt hu ⟨_, hk _ e2, rfl, _, rfl⟩ ⟨_, hk _ f2, rfl, _, rfl⟩ ?_ hq
    intro e
    have e : x.2.1 = y.2.1 := by exact_mod_cast e
    have hi := (List.getElem?_eq_some_iff.mp e1).1
    have hj := (List.getElem?_eq_some_iff.mp f1).1
    have h1 : (X.map (·.2.1))[i]'(by simpa using hi) = (X.map (·.2.1))[j]'(by simpa using hj) := by
      simp only [List.getElem_map]
      rw [(List.getElem?_eq_some_iff.mp e1).2, (List.getElem?_eq_some_iff.mp f1).2]
      exact e
    exact List.pairwise_iff_getElem.mp hks j i (by simpa using hj) (by simpa using hi) hji h1.symm
  · intro v h' tk hv hk
    obtain ⟨x, T, t1, t2, t3, n, e1, rfl, e2⟩ := at_ _ v hv
    refine hQ T x t1 t2 t3 n h' tk (List.mem_of_getElem? e1) (fun y hy => ?_) e2 hk
    obtain ⟨i, hi, rfl⟩ := List.getElem_of_mem hy
    have bm := best_min (fun i => (X.getD i x0).1) (fun i j => decide ((X.getD i x0).1 < (X.getD j x0).1) || ((X.getD i x0).1 == (X.getD j x0).1 && decide (((X.getD i x0).2.1 : Int) < ((X.getD j x0).2.1 : Int)))) (fun i j h => by simp only [Bool.or_eq_true, Bool.and_eq_true, decide_eq_true_eq, beq_iff_eq] at h; omega) (fun i j h => by simp only [Bool.or_eq_false_iff, decide_eq_false_iff_not] at h; omega) (items.size - 1) i (by rw [hM.1]; omega)
    have g2 : X.getD i x0 = X[i] := by rw [List.getD_eq_getElem?_getD]; simp [hi]
    have g1 : ∀ b : Nat, X[b]? = some x → X.getD b x0 = x := fun b e => by rw [List.getD_eq_getElem?_getD, e]; rfl
    have g3 := g1 _ e1
    rw [g3, g2] at bm
    exact bm
theorem stalks_cut {g h : Heap} {L : Addr} {A tups : List (Addr × Obj)} {as : Nat → Addr} {ws : Nat → List Nat} {k i : Nat} {d : Addr} {its : Array Value} {n1 n' n2 : Nat} {hs : Int} {t1 t2 : Tok} (N : News g L h (A ++ tups)) (hinj : ∀ i j, i < 3 → j < 3 → as i = as j → i = j) (hk : @LT.lt Nat _ k 3)
    (hA : ∀ j, j < 3 → HasStalk A tups (as j) (ws j)) (ha : (as k, accObj d its n1) ∈ A) (hd : (d, accDict hs t1 t2 n2) ∈ A) (hts : TupsAre tups its (ws k)) (hi : i ≤ (ws k).length) :
    ∀ j, j < 3 → HasStalk (reA A (as k) (accObj d (its.extract 0 i) n')) tups (as j) (cutAt ws k i j) := by
  have dne : ∀ {d : Addr} {hs : Int} {t1 t2 : Tok} {n2 : Nat}, (d, accDict hs t1 t2 n2) ∈ A → d ≠ as k := fun {d hs t1 t2 n2} h =>
    ne_obj N (M := as k) (List.mem_append_left _ ha) (List.mem_append_left _ h) (fun e => by simp [accObj, accDict] at e)
  intro j hj
  by_cases q : j = k
  · subst q
    unfold cutAt
    rw [if_pos rfl]
    exact ⟨d, _, n', n2, hs, t1, t2, reA_self ha, mem_reA hd (dne hd), hts.cut hi⟩
  · unfold cutAt
    rw [if_neg q]
    obtain ⟨d', its', m1, m2, hs', u1, u2, a1, a2, a3⟩ := hA j hj
    exact ⟨d', its', m1, m2, hs', u1, u2, mem_reA a1 (fun e => q (hinj _ _ hj hk e)), mem_reA a2 (dne a2), a3⟩
theorem news_cut {g h h' : Heap} {L a d : Addr} {pre A tups : List (Addr × Obj)} {its : Array Value} {n : Nat} {o' : Obj} (N : News g L h (pre ++ (A ++ tups))) (ha : (a, accObj d its n) ∈ A) (hpre : ∀ p ∈ pre, p.2 ≠ accObj d its n) (htup : ∀ p ∈ tups, p.2.cls = .type "tuple")
    (hk : ∀ b o, b ≠ a → h.get? b = some o → h'.get? b = some o) (ha' : h'.get? a = some o') : News g L h' (pre ++ (reA A a o' ++ tups)) := by
  have hm : (a, accObj d its n) ∈ pre ++ (A ++ tups) := List.mem_append_right _ (List.mem_append_left _ ha)
  intro p hp
  rcases List.mem_append.mp hp with hp | hp
  · have hp' := List.mem_append_left (A ++ tups) hp
    exact ⟨hk _ _ (ne_obj N hm hp' (hpre p hp)) (N p hp').1, (N p hp').2⟩
  rcases List.mem_append.mp hp with hp | hp
  · rcases reA_mem hp with rfl | ⟨hp, hne⟩
    · exact ⟨ha', (N _ hm).2⟩
    · have hp' : p ∈ pre ++ (A ++ tups) := List.mem_append_right _ (List.mem_append_left _ hp)
      exact ⟨hk _ _ hne (N p hp').1, (N p hp').2⟩
  · have hp' : p ∈ pre ++ (A ++ tups) := List.mem_append_right _ (List.mem_append_right _ hp)
    refine ⟨hk _ _ (ne_obj N hm hp' (fun e => ?_)) (N p hp').1, (N p hp').2⟩
    have := htup p hp
    rw [e] at this
    cases this
theorem solid_cut {A tups : List (Addr × Obj)} {a d : Addr} {its : Array Value} {n : Nat} (h : ∀ p ∈ A ++ tups, Solid p.2) : ∀ p ∈ reA A a (accObj d its n) ++ tups, Solid p.2 := by
  intro p hp
  rcases List.mem_append.mp hp with hp | hp
  · rcases reA_mem hp with rfl | ⟨hp, _⟩
    · exact ⟨fun q e => (by cases e), fun e => (by cases e)⟩
    · exact h p (List.mem_append_left _ hp)
  · exact h p (List.mem_append_right _ hp)
theorem TabIs.ne_acc {o : Obj} {d : Addr} {its : Array Value} {n : Nat} (h : TabIs o) : o ≠ accObj d its n := by
  obtain ⟨q, e, _⟩ := h
  rintro rfl
  cases e
theorem cut_len {ws : Nat → List Nat} {k n m : Nat} (hk : @LT.lt Nat _ k 3) (hn : n < (ws k).length) : (cutAt ws k n 0).length + (cutAt ws k n 1).length + (cutAt ws k n 2).length < (ws 0).length + (ws 1).length + (ws 2).length := by
  rcases lt3 (i := k) (by omega) with rfl | rfl | rfl
  all_goals simp only [cutAt, if_true, Nat.succ_ne_zero, if_false, Nat.zero_ne_one, (show (0 : Nat) ≠ 2 by decide), (show (1 : Nat) ≠ 2 by decide), (show (2 : Nat) ≠ 1 by decide), (show (2 : Nat) ≠ 0 by decide), (show (1 : Nat) ≠ 0 by decide), List.length_take]
  all_goals omega
/-- what a turn of the play leaves -/
noncomputable def PlayPost (g : Heap) (L ls lm lh : Addr) (om oh : Obj) (ns nm : Nat) (as : Nat → Addr) (ms : Nat → Nat) (mt : Nat → Tok) (tups : List (Addr × Obj)) (win : Int) (d : Drawn) (os : OsState) (kk : Nat) (f : Flow) (s' : Shared) : Prop :=
  match f with
  | .next | .cont => ∃ k', k' < kk ∧ PlayInv g L ls lm lh om oh ns nm as ms mt tups win d os k' s'
  | .brk => False
  | .ret v => PlayEnd g L lm lh oh nm ms mt win d os v s'
theorem TupsAre.less {tu T2 : List (Addr × Obj)} {its : Array Value} {ws : List Nat} (x : TupsAre (tu ++ T2) its ws) (h : ∀ p ∈ T2, TabIs p.2) : TupsAre tu its ws :=
  ⟨x.1, fun j c e => by
    obtain ⟨T, tf, tq, nn, e1, e2⟩ := x.2 j c e
    refine ⟨T, tf, tq, nn, e1, ?_⟩
    rcases List.mem_append.mp e2 with e2 | e2
    · exact e2
    · obtain ⟨q, e3, _⟩ := h _ e2
      cases e3⟩
/-- the body of the first for -/
noncomputable def forBody (l : List Stmt) : List Stmt := blockFrom 1 l
/-- between the turns of the inner loop -/
inductive ForJ (L ls lm lh M : Addr) (om oh : Obj) (ns nm : Nat) (as : Nat → Addr) (ms : Nat → Nat) (mt : Nat → Tok) (A tups : List (Addr × Obj)) (ws : Nat → List Nat) (mv : Nat) (due : Int) (tv td : Tok) (i : Nat) (m : Str → Option Value) (news : List (Addr × Obj)) (gs : Array GenState) (tk : Nat) : Prop
  | mk : ((∀ j, j < 3 → @LT.lt Nat _ (mt j) tk)) → (AllBare gs) → (m (Str.ofString "stalks") = some (.ref ls)) → (m (Str.ofString "mover") = some (.int mv tv)) → (m (Str.ofString "due") = some (.int due td)) → (m (Str.ofString "moves") = some (.ref M)) → ((∃ tt, m (Str.ofString "total") = some (.int (totV ms ws i) tt))) → ∀ (items : Array Value) (n : Nat) (MT : List (Addr × Obj)) (o77 o70 : Obj), (news = (M, listOf items n) :: (ls, refsO as ns) :: (L + 1 + 1, om) :: (lh, oh) :: (lm, marksO ms mt nm) :: (77, o77) :: (70, o70) :: (MT ++ (A ++ tups))) → (TabIs o77) → (TabIs o70) → (MovesAre MT items (movesOf ms ws mv i)) → ((∀ p ∈ MT, Solid p.2)) → ForJ L ls lm lh M om oh ns nm as ms mt A tups ws mv due tv td i m news gs tk
theorem fn_at {K : Frag} {f : Addr} {oc od osl name qual params body scope dV kV doc pm an cdv ct} (h : K.lookup f = some ⟨oc, od, .func (fnOf name qual params body scope dV kV doc pm an cdv ct), osl⟩) : K.lookup f = some ⟨oc, od, .func (fnOf name qual params body scope dV kV doc pm an cdv ct), osl⟩ := h
theorem code_ne {h : Heap} {c P b : Addr} {ps : Array Value} {o : Obj} (hC : IsCodeT h c P ps) (e : h.get? b = some o) (hne : ∀ q, o.data ≠ .fields q) : c ≠ b := by
  rintro rfl
  obtain ⟨o', vs, _, _, _, _, _, _, _, _, h1, h2, _⟩ := hC.1
  rw [h1] at e
  exact hne _ (Option.some.inj e ▸ h2)
noncomputable def TupO (o : Obj) : Prop := o.cls = .type "tuple" ∧ ∀ q, o.data ≠ .fields q
theorem as_inj {a0 a1 a2 : Addr} (h : [a0, a1, a2].Nodup) : ∀ i j, i < 3 → j < 3 → (if i = 0 then a0 else if i = 1 then a1 else a2) = (if j = 0 then a0 else if j = 1 then a1 else a2) → i = j := by
  simp only [List.nodup_cons, List.mem_cons, List.not_mem_nil, or_false, not_or] at h
  obtain ⟨⟨h1, h2⟩, h3, _⟩ := h
  intro i j hi hj e
  rcases lt3 (i := i) (by omega) with rfl | rfl | rfl <;> rcases lt3 (i := j) (by omega) with rfl | rfl | rfl
  all_goals first
    | rfl
    | exact absurd e h1
    | exact absurd e h2
    | exact absurd e h3
    | exact absurd e.symm h1
    | exact absurd e.symm h2
    | exact absurd e.symm h3
end Mine
end

section
open PySem PySem.W PyProof.Rows PySem.Calls PySem.Builtin PySem.Builtin.ObjectAttr
namespace Mine
theorem slot_fn_set : Slot "function" "__setattr__" "object.__setattr__" := .of (owner := "object") (n := "__setattr__") (by rw [typeLookup_type, builtinLookup_eq_fast]; kernel_rfl) (by decide +kernel) (by decide +kernel) (by decide +kernel)
  (by first | exact .inl (by decide +kernel) | exact .inr (by decide +kernel)) (by rw [isSubtype_type]; kernel_rfl)
theorem refuse_fn (self : Value) : refuseLoop self "__setattr__" [.type "function", .type "object"] = pure () := by kernel_rfl
theorem mro_fn : mroOf (.type "function") = pure [.type "function", .type "object"] := by kernel_rfl
theorem look_fn_read : typeLookup (.type "function") "read" = pure none := by rw [typeLookup_type, builtinLookup_eq_fast]; kernel_rfl
theorem hasDict_fn : typeHasDict (.type "function") = true := by decide +kernel
theorem dictMade_fn (a d : Addr) : dictMade (.type "function") a d = pure (some d) := by unfold dictMade; rfl
section
variable {prog : Program} {w : World} {A : Around} {E : Value → Shared → Prop} {s : Shared} {x : Addr} {o : Obj} {fd : FuncData} {v : Value}
/-- the first store of an attribute «read» on a function -/
theorem fn_setattr {Q : Unit → Shared → Prop} (ho : s.heap.get? x = some o) (hc : o.cls = .type "function") (hd : o.dict = none) (hdat : o.data = .func fd)
    (h : ∀ h', h'.get? x = some { o with dict := some s.heap.objs.size } → h'.get? s.heap.objs.size = some (dictOf [⟨PyData.keyHash w.params "read", .str "read" (s.toks + 1), v⟩] 1) → (∀ b o, b ≠ x → s.heap.get? b = some o → h'.get? b = some o) → Q () { s with heap := h', toks := s.toks + 2 }) :
    wpAny (model prog w) A (setAttr (.ref x) "read" v) Q E s := by
  have hT : s.TypeIs (.ref x) "function" := ⟨o, ho, hc⟩
  have hT1 : ({ s with toks := s.toks + 1 } : Shared).TypeIs (.ref x) "function" := ⟨o, ho, hc⟩
  have hxs : x ≠ s.heap.objs.size := Nat.ne_of_lt (Heap.lt_size ho)
  unfold setAttr
  refine wpAny_bind (wpAny_mkText ?_)
  refine wpAny_bind (wpAny_callSpecial?_slot (name := Str.ofString "__setattr__") hT1 slot_fn_set (wpAny_call_entry slot_fn_set hT1 PySem.F.entry_object_setattr ?_ (PySem.F.args_object_setattr_3 _ _ _)))
  rw [osa_eq, refuse_eq]
  have hty : ∀ {α : Type} {k : Value → Sem α} {Q : α → Shared → Prop} {E : Value → Shared → Prop} {A : Around}, wpAny (model prog w) A (k (.type "function")) Q E { s with toks := s.toks + 1 } → wpAny (model prog w) A (typeOf (.ref x) >>= k) Q E { s with toks := s.toks + 1 } := fun {α k Q E A} hk =>
    wpAny_bind (wpAny_typeOf hT1 hk)
  refine wpAny_bind (hty ?_)
  rw [mro_fn]
  refine wpAny_bind (wpAny_pure ?_)
  rw [refuse_fn]
  refine wpAny_pure (hty ?_)
  rw [look_fn_read]
  refine wpAny_bind (wpAny_pure (wpAny_bind (wpAny_pure ?_)))
  have hx₁ : (s.heap.push { cls := .type "dict", data := .dict #[] }).get? x = some o := Heap.get?_push_of_some _ ho
  have hd₁ : ((s.heap.push { cls := .type "dict", data := .dict #[] }).update x fun o => { cls := o.cls, dict := some s.heap.objs.size, data := o.data, slots := o.slots }).get? s.heap.objs.size = some (dictOf [] 0) :=
    (Heap.get?_update_ne _ _ _ _ hxs.symm).trans (Heap.get?_push_at rfl rfl)
  have hx₂ : ((s.heap.push { cls := .type "dict", data := .dict #[] }).update x fun o => { cls := o.cls, dict := some s.heap.objs.size, data := o.data, slots := o.slots }).get? x = some { o with dict := some s.heap.objs.size } := by
    refine Heap.get?_update_self _ hx₁ ?_
    obtain ⟨oc, od, odt, osl⟩ := o
    dsimp only at hdat ⊢
    rw [hdat]; rfl
  show wpAny _ _ (ownStreamTells (.ref x) (.type "function") >>= fun _ => _) _ _ _
  refine wpAny_bind (wpAny_pure ?_)
  show wpAny _ _ (instanceDict x true >>= _) _ _ _
  refine wpAny_bind ?_
  unfold instanceDict
  refine wpAny_bind (wpAny_loadPart ho ?_)
  rw [hc, hd]
  refine wpAny_bind (wpAny_pure ?_)
  rw [hdat]
  show wpAny _ _ (alloc _ >>= _) _ _ _
  refine wpAny_bind (wpAny_alloc ?_)
  refine wpAny_bind (wpAny_update hx₁ ?_)
  rw [dictMade_fn]
  refine wpAny_pure ?_
  show wpAny _ _ (storeInDict s.heap.objs.size (.str "read" s.toks) "read" v) _ _ _
  unfold storeInDict newKeyGuard
  refine wpAny_bind (wpAny_pure (wpAny_bind ?_))
  unfold nsSet
  refine wpAny_bind (wpAny_bind (wpAny_askSetting (wpAny_pure (wpAny_bind (wpAny_mkText (wpAny_bind (wpAny_loadPart (s := ⟨_, s.gens, s.drawn, s.toks + 1 + 1, s.os⟩) hd₁ ?_)))))))
  show wpAny _ _ (if aRefKeyMayBeTheName "read" #[] = true then _ else _) _ _ _
  rw [if_neg (by rw [aRefKeyMayBeTheName_at]; simp)]
  refine wpAny_updatePart (s := ⟨_, s.gens, s.drawn, s.toks + 1 + 1, s.os⟩) hd₁ ?_
  have D' : (((s.heap.push { cls := .type "dict", data := .dict #[] }).update x fun o => { cls := o.cls, dict := some s.heap.objs.size, data := o.data, slots := o.slots }).update s.heap.objs.size (Obj.putName "read" (PyData.keyHash w.params "read") (.str "read" (s.toks + 1)) v)).get? s.heap.objs.size = some (dictOf [⟨PyData.keyHash w.params "read", .str "read" (s.toks + 1), v⟩] 1) := by
    rw [Heap.get?_update_self _ hd₁ (by rw [putName_dict]; rfl), putName_dict]
    rfl
  refine wpAny_bind (wpAny_lookBehind D' (pastItsLine_dict (by rw [List.size_toArray, sizeLine_eq]; simp)) ?_)
  refine wpAny_pure ⟨.none, rfl, wpAny_pure (h _ ?_ D' fun b o' hb e => ?_)⟩
  · exact (Heap.get?_update_ne _ _ _ _ hxs).trans hx₂
  · exact (Heap.get?_update_ne _ _ _ _ (Nat.ne_of_lt (Heap.lt_size e))).trans ((Heap.get?_update_ne _ _ _ _ hb).trans (Heap.get?_push_of_some _ e))
theorem fn_setattr_K {h₀ : Heap} {L : Addr} {m : Str → Option Value} {news : List (Addr × Obj)} {gx : Obj → List (Addr × Obj)} {Q : Unit → Shared → Prop} (F : Fr h₀ L s.heap m) (N : News h₀ L s.heap news) (U : UpdF x o news gx) (hc : o.cls = .type "function") (hd : o.dict = none) (hdat : o.data = .func fd)
    (h : ∀ d tk h', Fr h₀ L h' m → News h₀ L h' ((d, dictOf [⟨PyData.keyHash w.params "read", .str "read" tk, v⟩] 1) :: gx { o with dict := some d }) → (∀ p ∈ news, p.1 < d) → Q () { s with heap := h', toks := s.toks + 2 }) :
    wpAny (model prog w) A (setAttr (.ref x) "read" v) Q E s := by
  obtain ⟨pre, post, rfl, hg, h1, h2⟩ := U.split
  have z := N (x, o) (List.mem_append_right _ (.head _))
  refine fn_setattr z.1 hc hd hdat fun h' hx hd' hk => ?_
  have hLn : L ≠ s.heap.objs.size := Nat.ne_of_lt F.ns.lt
  have hn : h₀.get? s.heap.objs.size = none := by
    cases q : h₀.get? s.heap.objs.size with
    | none => rfl
    | some o => exact absurd (Heap.lt_size (F.keep _ _ q)) (Nat.lt_irrefl _)
  refine h s.heap.objs.size (s.toks + 1) h' ⟨F.ns.at' fun o e => hk _ _ (Ne.symm z.2.1) e, fun b o e => hk b o (by rintro rfl; rw [z.2.2] at e; cases e) (F.keep b o e), F.above⟩ ?_ (fun p hp => Heap.lt_size (N p hp).1)
  rw [hg]
  intro p hp
  rcases List.mem_cons.mp hp with rfl | hp
  · exact ⟨hd', Ne.symm hLn, hn⟩
  rcases List.mem_append.mp hp with hp | hp
  · have q := N p (List.mem_append_left _ hp)
    exact ⟨hk _ _ (h1 p hp) q.1, q.2⟩
  rcases List.mem_cons.mp hp with rfl | hp
  · exact ⟨hx, z.2⟩
  · have q := N p (List.mem_append_right _ (.tail _ hp))
    exact ⟨hk _ _ (h2 p hp) q.1, q.2⟩
end
end Mine
end

section
open PySem PySem.W PyProof.Rows PySem.Calls
namespace Mine
/-- the code of such a call, its body walked over the heap less the objects it may change -/
theorem enterCode {prog : Program} {w : World} {A : Around} {E : Value → Shared → Prop} {s : Shared} {K : Frag} {h₀ : Heap} {mg mb : Str → Option Value} {p : Program} {loose : List Str} {mean : ExcName → Option Value} {Q : Value → Shared → Prop} {as : List Addr}
    {name qual : Str} {params : Arguments} {body : List Stmt} {scope : Scope} {dV kV doc pm cdv ct oc : Value} {an od : Option Addr} {osl : Array (Option Value)} {f : Addr} {args : List Value} {binds : List (Str × Value)}
    (X : K.In h₀) (T : Top p loose mean mg mb h₀) (hk : ∀ b o, h₀.get? b = some o → s.heap.get? b = some o) (hna : ∀ a ∈ as, h₀.get? a = none)
    (ho : K.lookup f = some ⟨oc, od, .func (fnOf name qual params body scope dV kV doc pm an cdv ct), osl⟩) (hcd : codeIn K cdv qual = true) (hroom : A.depth < recursionLimit)
    (hbind : BindsTo s (fnOf name qual params body scope dV kV doc pm an cdv ct) ⟨args, []⟩ binds) (hloc : ∀ y ∈ binds, scope.names.lookup y.1 = some .local)
    (hco : scope.isCoroutine = false) (hgen : scope.isGenerator = false) (hkd : scope.kind = .function) (hcell : ∀ x ∈ scope.names, x.2 ≠ .cell)
    (h : ∀ g L h₁ tk, g = hideAll s.heap as → L = s.heap.objs.size → Fr g L h₁ (fun y => binds.reverse.lookup y) → (∀ b o, s.heap.get? b = some o → h₁.get? b = some o) → K.In g → Top p loose mean mg mb g →
      wpAny (model prog w) (A.deeper (envOf qual scope L f cdv)) (execs body (envOf qual scope L f cdv))
        (fun fl s' => Q (match fl with | .ret v => v | _ => .none) s') (fun _ _ => False)
        { s with heap := h₁, toks := tk }) : codeAny (model prog w) A (.call (.ref f) ⟨args, []⟩) (fun r s' => match r with | .ok (.ret v) => Q v s' | .ok _ => False | .error e => E e s') s := by
  have st : ∀ b o, h₀.get? b = some o → (hideAll s.heap as).get? b = some o := fun b o e => hideAll_get _ (hk b o e) fun q => by
    rw [hna b q] at e; cases e
  refine codeAny_call_def (fd := fnOf name qual params body scope dV kV doc pm an cdv ct) (body := body) (binds := binds) hroom ((X.keeps hk) _ _ ho) rfl (T.nolimit.keeps hk) (codeRec_of (X.keeps hk) hcd) rfl hbind hcell hloc (fun h₁ hns hk₁ => ?_) hco hgen hkd
  refine wpAny_mono (h _ _ h₁ _ rfl rfl ⟨hns, fun b o e => hk₁ b o (of_hideAll _ e), Nat.le_of_eq (hideAll_size _ _)⟩ hk₁ (X.keeps st) (T.keeps st)) (fun fl s' hl => ?_) fun _ _ y => y.elim
  cases fl <;> exact hl


/-- a call of a def made in a call, its body walked over the heap less the objects it may change -/
theorem enterN {prog : Program} {w : World} {A : Around} {E : Value → Shared → Prop} {s : Shared} {K : Frag} {h₀ : Heap} {mg mb : Str → Option Value} {p : Program} {loose : List Str} {mean : ExcName → Option Value} {Q : Value → Shared → Prop} {as : List Addr}
    {name qual : Str} {params : Arguments} {body : List Stmt} {scope : Scope} {cl : List (Str × Addr)} {dV kV doc pm cdv ct : Value} {an : Option Addr} {fo : Obj} {f : Addr} {args : List Value} {binds : List (Str × Value)}
    (X : K.In h₀) (T : Top p loose mean mg mb h₀) (hk : ∀ b o, h₀.get? b = some o → s.heap.get? b = some o) (hna : ∀ a ∈ as, h₀.get? a = none)
    (ho : s.heap.get? f = some fo) (hfd : fo.data = .func (fnX name qual params body scope cl dV kV doc pm an cdv ct)) (hcd : s.heap.CodeRec cdv qual) (hroom : A.depth < recursionLimit)
    (hbind : BindsTo s (fnX name qual params body scope cl dV kV doc pm an cdv ct) ⟨args, []⟩ binds) (hloc : ∀ y ∈ binds, scope.names.lookup y.1 = some .local)
    (hco : scope.isCoroutine = false) (hgen : scope.isGenerator = false) (hkd : scope.kind = .function) (hcell : ∀ x ∈ scope.names, x.2 ≠ .cell)
    (h : ∀ g L h₁ tk, g = hideAll s.heap as → L = s.heap.objs.size → Fr g L h₁ (fun y => binds.reverse.lookup y) → (∀ b o, s.heap.get? b = some o → h₁.get? b = some o) → K.In g → Top p loose mean mg mb g →
      wpAny (model prog w) (A.deeper (envX qual scope L f cdv cl)) (execs body (envX qual scope L f cdv cl))
        (fun fl s' => Q (match fl with | .ret v => v | _ => .none) s') (fun _ _ => False)
        { s with heap := h₁, toks := tk }) : wpAny (model prog w) A (call (.ref f) args) Q E s := by
  have st : ∀ b o, h₀.get? b = some o → (hideAll s.heap as).get? b = some o := fun b o e => hideAll_get _ (hk b o e) fun q => by
    rw [hna b q] at e; cases e
  refine wpAny_call ?_
  refine codeAny_call_def (fd := fnX name qual params body scope cl dV kV doc pm an cdv ct) (body := body) (binds := binds) hroom ho hfd (T.nolimit.keeps hk) hcd rfl hbind hcell hloc (fun h₁ hns hk₁ => ?_) hco hgen hkd
  refine wpAny_mono (h _ _ h₁ _ rfl rfl ⟨hns, fun b o e => hk₁ b o (of_hideAll _ e), Nat.le_of_eq (hideAll_size _ _)⟩ hk₁ (X.keeps st) (T.keeps st)) (fun fl s' hl => ?_) fun _ _ y => y.elim
  cases fl <;> exact hl


/-- a lexer's dict -/
noncomputable abbrev lexDict (q : Nat → Int) (k : Nat → Tok) (ln : Int) (tl tw : Tok) (S pb : Addr) : Obj :=
  dictOf [⟨q 0, .str (Str.ofString "lineno") (k 0), .int ln tl⟩, ⟨q 1, .str (Str.ofString "instream") (k 1), .ref S⟩, ⟨q 2, .str (Str.ofString "whitespace") (k 2), .str (Str.ofString "\n\t\r ") tw⟩, ⟨q 3, .str (Str.ofString "pushback") (k 3), .ref pb⟩] 4
noncomputable def four {α : Type} (a b c d : α) : Nat → α
  | 0 => a
  | 1 => b
  | 2 => c
  | _ => d
theorem nlex_init_c : ∀ {w : World} {dp u : Nat} {fr : Option (List Env)} {gd : Option (List Code)} {h₀ : Heap} {mg mb : Str → Option Value} {s : Shared} {p : Program} {loose : List Str} {mean : ExcName → Option Value}
    {Q E : Value → Shared → Prop} (X : (hd.heap_1 w.params).In h₀) (T : Top p loose mean mg mb h₀) (hk : ∀ b o, h₀.get? b = some o → s.heap.get? b = some o) (hroom : dp < 600)
    (a d S : Addr) (ha : s.heap.get? a = some (instObj 150 d)) (hd : s.heap.get? d = some (dictOf [] 0)) (hna : h₀.get? a = none) (hnd : h₀.get? d = none)
    (h : ∀ q k tl tw pb h' tk', s.heap.get? pb = none → h'.get? d = some (lexDict q k 1 tl tw S pb) → h'.get? pb = some (listOf #[] 0) → (∀ b o, b ≠ d → s.heap.get? b = some o → h'.get? b = some o) → Q .none { s with heap := h', toks := tk' }),
    codeAny (model PySem.Challenge.rw_re0035_01.row.prog w) ⟨none, dp, fr, gd, u⟩ (.call (.ref 126) ⟨[.ref a, .ref S], []⟩) (fun r s' => match r with | .ok (.ret v) => Q v s' | .ok _ => False | .error e => E e s') s := by
  k_fill
  intro w dp u fr gd h₀ mg mb s p loose mean Q E X T hk hroom a d S ha hd hna hnd h
  refine' enterCode (as := [a, d]) (binds := [(Str.ofString "self", .ref a), (Str.ofString "fp", .ref S)]) X T hk ?n ?k6 ?k7 ?k8 ?k9 ?kB ?c2 ?c3 ?c4 ?c5 ?_
  case n => intro b hb; rcases List.mem_cons.mp hb with rfl | hb; exact hna; rw [List.mem_singleton.mp hb]; exact hnd
  case k6 => k_is
  case k7 => k_is
  case k8 => simp only [recursionLimit]; omega
  case k9 => exact BindsTo.of_eq rfl
  case c5 => decide
  case kB => exact locs rfl
  case c2 => exact rfl
  case c3 => exact rfl
  case c4 => exact rfl
  intro g L h₁ tk₁ hg hL F' hk₁ X' T'
  have N' : News g L h₁ [(a, instObj 150 d), (d, dictOf [] 0)] := fun p hp => by
    rcases List.mem_cons.mp hp with rfl | hp
    · exact ⟨hk₁ _ _ ha, Nat.ne_of_lt (hL ▸ Heap.lt_size ha), hg ▸ hideAll_none _ (.head _)⟩
    · rw [List.mem_singleton.mp hp]
      exact ⟨hk₁ _ _ hd, Nat.ne_of_lt (hL ▸ Heap.lt_size hd), hg ▸ hideAll_none _ (.tail _ (.head _))⟩
  have hda : @Ne Nat d a := fun e => by rw [e, ha] at hd; cases hd
  clear X T hk hk₁
  k_steps
  (with_reducible rename News _ _ _ _ => NN)
  (with_reducible rename Fr _ _ _ _ => FF)
  rename _ ∧ _ => l1
  refine h (four _ _ _ _) (four _ _ _ _) _ _ _ _ _ ?_ (NN.get (o := lexDict (four _ _ _ _) (four _ _ _ _) _ _ _ _ _) (by k_mem)) (NN.get (by k_mem)) fun b o hb e => ?_
  · have q := (NN (_, listOf #[] 0) (by k_mem)).2.2
    rw [hg] at q
    refine none_of_hide q ?_
    simp only [List.mem_cons, List.not_mem_nil, or_false, not_or]
    exact ⟨Nat.ne_of_gt l1.1, Nat.ne_of_gt l1.2⟩
  · by_cases ea : b = a
    · subst ea; rw [ha] at e; cases e; exact NN.get (by k_mem)
    · exact FF.keep b o (hg ▸ get_hide e (by simp [ea, hb]))
end Mine
end

section
open PySem PySem.W PyProof.Rows PySem.Calls
namespace Mine
noncomputable def signAt (x : Str) (i : Nat) : Str := match x.cps[i]? with
  | some c => ⟨#[c]⟩
  | none => Str.empty
noncomputable def nextAt (x : Str) (i : Nat) : Nat := if i < x.length then i + 1 else i
/-- what reading one sign from the stream does -/
noncomputable def ReadSpec (w : World) (R AT : Addr) (x : Str) (fix : List (Addr × Obj)) : Prop :=
  ∀ {dp u : Nat} {fr : Option (List Env)} {gd : Option (List Code)} {h₀ : Heap} {mg mb : Str → Option Value} {s : Shared} {p : Program} {loose : List Str} {mean : ExcName → Option Value}
    {Q E : Value → Shared → Prop} (X : (hd.heap_1 w.params).In h₀) (T : Top p loose mean mg mb h₀) (hk : ∀ b o, h₀.get? b = some o → s.heap.get? b = some o) (hroom : dp < 600)
    (hfix : ∀ p ∈ fix, s.heap.get? p.1 = some p.2) (hnone : ∀ p ∈ fix, h₀.get? p.1 = none) (hAT : h₀.get? AT = none) (i : Nat) (tp t1 : Tok) (n : Nat) (ha : s.heap.get? AT = some (listOf #[.int i tp] n)) (hi : i ≤ x.length)
    (h : ∀ t tp' h' tk', h'.get? AT = some (listOf #[.int (nextAt x i) tp'] n) → (∀ b o, b ≠ AT → s.heap.get? b = some o → h'.get? b = some o) → Q (.str (signAt x i) t) { s with heap := h', toks := tk' }),
    wpAny (model PySem.Challenge.rw_re0035_01.row.prog w) ⟨none, dp, fr, gd, u⟩ (call (.ref R) [.int 1 t1]) Q E s
theorem slice_sign (x : Str) (i : Nat) (hi : i ≤ x.length) : Txt.slice x (some (i : Int)) (some ((i : Int) + 1)) = signAt x i ∧ ((i : Int) + ((signAt x i).length : Nat)) = (nextAt x i : Nat) := by
  by_cases h : i < x.length
  · have e : ((i : Int) + 1) = ((i + 1 : Nat) : Int) := by omega
    have hs : signAt x i = ⟨#[x.cps[i]'h]⟩ := by
      unfold signAt
      have : x.cps[i]? = some (x.cps[i]'h) := Array.getElem?_eq_getElem h
      rw [this]
    refine ⟨?_, ?_⟩
    · rw [e, hs]
      show StrLaws.sliceText x (some (i : Int)) (some ((i + 1 : Nat) : Int)) = _
      rw [StrLaws.sliceText_nat x (by omega) (by omega)]
      have h2 : i < x.cps.toList.length := by simpa [Str.length] using h
      rw [show i + 1 - i = 1 by omega, List.drop_eq_getElem_cons h2]
      simp
      try rfl
    · rw [hs, nextAt, if_pos h]; show (i : Int) + 1 = _; omega
  · have hn : i = x.length := by omega
    subst hn
    have hs : signAt x x.length = Str.empty := by
      unfold signAt
      have : x.cps[x.length]? = none := Array.getElem?_eq_none (Nat.le_refl _)
      rw [this]
    refine ⟨?_, ?_⟩
    · rw [hs]
      have e : Builtin.Str.strSliceIndices (some (x.length : Int)) (some ((x.length : Int) + 1)) 1 x.length = [] := by
        unfold Builtin.Str.strSliceIndices sliceRange
        simp only [show (1 : Int) > 0 by decide, if_true]
        rw [if_neg (show ¬ ((x.length : Int) < 0) by omega), if_neg (show ¬ ((x.length : Int) + 1 < 0) by omega)]
        have e1 : max (0 : Int) (min ((x.length : Int) + 1) x.length) = x.length := by omega
        have e2 : max (0 : Int) (min (x.length : Int) x.length) = x.length := by omega
        rw [e1, e2]
        simp
      unfold Txt.slice
      rw [e]
      split
      · rename_i h0
        have h0 : x.length = 0 := by
          have h1 : (0 : Nat) = x.length := by simpa using h0
          exact h1.symm
        apply Str.ext'
        exact Array.eq_empty_of_size_eq_zero h0
      · rfl
    · rw [hs, nextAt, if_neg (Nat.lt_irrefl _)]; show (x.length : Int) + 0 = _; omega
/-- the first def in a body -/
noncomputable def defBody (l : List Stmt) : List Stmt := blockFrom 4 l
noncomputable def defScope : List Stmt → Scope
  | .FunctionDef _ _ _ _ _ _ sc _ _ _ :: _ => sc
  | _ :: r => defScope r
  | [] => default
noncomputable def defParams : List Stmt → Arguments
  | .FunctionDef _ ps _ _ _ _ _ _ _ _ :: _ => ps
  | _ :: r => defParams r
  | [] => default
local macro_rules | `(tactic| walk_at "eval Name") => `(tactic| (k_here; k_dflt (refine' nameX_F ?k1 ?k2 ?k3 ?k4 ?_ ?k5 ?k6; (case k5 => rfl); (case k6 => rfl); (case k1 => k_asm); (case k2 => rfl); (case k3 => k_mem); (case k4 => assumption); k_whole)))
theorem read_spec : ∀ {w : World} {name qual : Str} {params : Arguments} {body : List Stmt} {scope : Scope} {dV kV doc pm cdv ct oc : Value} {an od : Option Addr} {osl : Array (Option Value)}
    (ho : (hd.heap_1 w.params).lookup 161 = some ⟨oc, od, .func (fnOf name qual params body scope dV kV doc pm an cdv ct), osl⟩)
    (R cR cT cA AT : Addr) (x : Str) (tx : Tok) (oR ocd oT oA : Obj) (nm ql : Str) (doc' pm' ct' : Value) (vs : Array Value) (tq : Tok) (hx : x.length ≤ 100000)
    (hR : oR.data = .func (fnX nm ql (defParams body) (defBody body) (defScope body) [(Str.ofString "text", cT), (Str.ofString "at", cA)] .none .none doc' pm' none (.ref cR) ct')) (hcd : ocd.data = .fields vs) (hvs : vs[1]? = some (.str ql tq))
    (hT : oT.data = .cell (some (.str x tx))) (hA : oA.data = .cell (some (.ref AT))), ReadSpec w R AT x [(R, oR), (cR, ocd), (cT, oT), (cA, oA)] := by
  unfold ReadSpec
  k_fill
  intro w name qual params body scope dV kV doc pm cdv ct oc an od osl ho R cR cT cA AT x tx oR ocd oT oA nm ql doc' pm' ct' vs tq hx hR hcd hvs hT hA
  obtain ⟨q1, q2, q3, q4⟩ := fn_inj ho (by k_is)
  subst q1 q2 q3 q4
  conv at hR in (defParams _) => whnf
  conv at hR in (defBody _) => whnf
  conv at hR in (defScope _) => whnf
  intro dp u fr gd h₀ mg mb s p loose mean Q E X T hk hroom hfix hnone hAT i tp t1 n ha hi h
  have hk2 : ∀ b o, h₀.get? b = some o → s.heap.get? b = some o := hk
  refine' enterN (as := [AT, cT, cA]) (binds := [(Str.ofString "size", .int 1 t1)]) X T hk ?kN (hfix (R, oR) (by k_mem)) hR ?k7 ?k8 ?k9 ?kB ?c2 ?c3 ?c4 ?c5 ?_
  case kN =>
    intro b hb
    simp only [List.mem_cons, List.not_mem_nil, or_false] at hb
    rcases hb with e | e | e <;> rw [e]
    · exact hAT
    · exact hnone (cT, oT) (by k_mem)
    · exact hnone (cA, oA) (by k_mem)
  case k7 => exact ⟨cR, ocd, vs, tq, rfl, hfix (cR, ocd) (by k_mem), hcd, hvs⟩
  case k8 => simp only [recursionLimit]; omega
  case k9 => exact BindsTo.of_eq rfl
  case c5 => decide
  case kB => exact locs rfl
  case c2 => exact rfl
  case c3 => exact rfl
  case c4 => exact rfl
  intro g L h₁ tk₁ hg hL F' hk₁ X' T'
  have N' : News g L h₁ [(AT, listOf #[.int i tp] n), (cT, oT), (cA, oA)] := fun p hp => by
    rcases List.mem_cons.mp hp with rfl | hp
    · exact ⟨hk₁ _ _ ha, Nat.ne_of_lt (hL ▸ Heap.lt_size ha), hg ▸ hideAll_none _ (.head _)⟩
    rcases List.mem_cons.mp hp with rfl | hp
    · exact ⟨hk₁ _ _ (hfix (cT, oT) (by k_mem)), Nat.ne_of_lt (hL ▸ Heap.lt_size (hfix (cT, oT) (by k_mem))), hg ▸ hideAll_none _ (.tail _ (.head _))⟩
    · rw [List.mem_singleton.mp hp]
      exact ⟨hk₁ _ _ (hfix (cA, oA) (by k_mem)), Nat.ne_of_lt (hL ▸ Heap.lt_size (hfix (cA, oA) (by k_mem))), hg ▸ hideAll_none _ (.tail _ (.tail _ (.head _)))⟩
  have hTA : @Ne Nat cT AT := fun e => by
    have e : cT = AT := e
    have h1 := hfix (cT, oT) (by k_mem)
    have h1 : s.heap.get? cT = some oT := h1
    rw [e, ha] at h1
    rw [← Option.some.inj h1] at hT; cases hT
  have hAA : @Ne Nat cA AT := fun e => by
    have e : cA = AT := e
    have h1 := hfix (cA, oA) (by k_mem)
    have h1 : s.heap.get? cA = some oA := h1
    rw [e, ha] at h1
    rw [← Option.some.inj h1] at hA; cases hA
  have hsT : s.heap.get? cT = some oT := hfix (cT, oT) (by k_mem)
  have hsA : s.heap.get? cA = some oA := hfix (cA, oA) (by k_mem)
  clear X T hk hk₁ hfix hnone hk2
  k_steps
  (with_reducible rename News _ _ _ _ => NN)
  (with_reducible rename Fr _ _ _ _ => FF)
  have e0 : [(i : Int)].getD (Int.toNat 0) 0 = i := rfl
  rw [e0] at NN ⊢
  obtain ⟨s1, s2⟩ := slice_sign x i hi
  rw [s1] at NN ⊢
  rw [s2] at NN
  refine h _ _ _ _ (NN.get (.head _)) fun b o hb e => ?_
  by_cases h1 : b = cT
  · rw [h1] at e ⊢
    rw [hsT] at e
    rw [← Option.some.inj e]
    exact NN.get (by k_mem)
  by_cases h2 : b = cA
  · rw [h2] at e ⊢
    rw [hsA] at e
    rw [← Option.some.inj e]
    exact NN.get (by k_mem)
  exact FF.keep b o (hg ▸ get_hide e (by simp [h1, h2, hb]))
/-- the objects of a lexer and its stream -/
structure LexIds where
  a : Addr
  d : Addr
  S : Addr
  dS : Addr
  R : Addr
  AT : Addr
  pb : Addr
  oS : Obj
  hs : Int
  ts : Tok
  q : Nat → Int
  k : Nat → Tok
  tw : Tok
  n : Nat
  fix : List (Addr × Obj)
noncomputable abbrev LexIds.rest (I : LexIds) : List (Addr × Obj) := (I.a, instObj 150 I.d) :: (I.S, I.oS) :: (I.dS, dictOf [⟨I.hs, .str (Str.ofString "read") I.ts, .ref I.R⟩] 1) :: (I.pb, listOf #[] 0) :: I.fix
noncomputable abbrev LexIds.all (I : LexIds) (ln : Int) (tl : Tok) (i : Nat) (tp : Tok) : List (Addr × Obj) := (I.d, lexDict I.q I.k ln tl I.tw I.S I.pb) :: (I.AT, listOf #[.int i tp] I.n) :: I.rest
structure LexOk (w : World) (x : Str) (I : LexIds) : Prop where
  cls : I.oS.cls = .type "function"
  dict : I.oS.dict = some I.dS
  data : ∃ fd, I.oS.data = .func fd
  spec : ReadSpec w I.R I.AT x I.fix
  apart : ∀ p ∈ I.fix, @Ne Nat p.1 I.d ∧ @Ne Nat p.1 I.AT
  len : x.length ≤ 1000
  fn : ∃ oc od fd sl, (I.R, (⟨oc, od, .func fd, sl⟩ : Obj)) ∈ I.fix
end Mine
end

section
open PySem PySem.W PyProof.Rows PySem.Calls PySem.Builtin PySem.Builtin.ObjectAttr
namespace Mine
theorem slot_fn_ga : Slot "function" "__getattribute__" "object.__getattribute__" := .of (owner := "object") (n := "__getattribute__") (by rw [typeLookup_type, builtinLookup_eq_fast]; kernel_rfl) (by decide +kernel) (by decide +kernel) (by decide +kernel)
  (by first | exact .inl (by decide +kernel) | exact .inr (by decide +kernel)) (by rw [isSubtype_type]; kernel_rfl)
theorem look_fn_hook : typeLookup (.type "function") "__getattr__" = pure none := by rw [typeLookup_type, builtinLookup_eq_fast]; kernel_rfl
theorem canon_oga : (Manifest.canonical "object.__getattribute__" != "object.__getattribute__") = false := by decide +kernel
section
variable {prog : Program} {w : World} {A : Around} {E : Value → Shared → Prop} {s : Shared} {S dS : Addr} {oS : Obj} {fd : FuncData} {v : Value} {hs : Int} {ts : Tok}
theorem fn_find {Q : Found → Shared → Prop} (hS : s.heap.get? S = some oS) (hc : oS.cls = .type "function") (hd : oS.dict = some dS) (hdat : oS.data = .func fd) (hdS : s.heap.get? dS = some (dictOf [⟨hs, .str (Str.ofString "read") ts, v⟩] 1)) (h : Q (.value v) s) :
    wpAny (model prog w) A (find (.ref S) (.type "function") "read") Q E s := by
  unfold find
  rw [look_fn_read]
  refine wpAny_bind (wpAny_pure (wpAny_bind (wpAny_pure (wpAny_bind (wpAny_pure ?_)))))
  dsimp only
  unfold ownThenClass inOwnDict
  refine wpAny_bind (wpAny_bind ?_)
  unfold ObjectAttr.ownDict loadHead
  refine wpAny_bind (wpAny_loadPart hS ?_)
  rw [hdat]
  dsimp only
  unfold instanceDict
  refine wpAny_bind (wpAny_loadPart hS ?_)
  rw [hc, hd]
  refine wpAny_bind (wpAny_pure (wpAny_pure ?_))
  show wpAny _ _ (nsGet dS "read") _ _ _
  refine wpAny_bind (wpAny_loadPart hdS ?_)
  rw [nsLook_of (r := some v) rfl]
  refine wpAny_pure ?_
  dsimp only
  exact wpAny_bind (wpAny_rule (wpAny_pure h))
theorem fn_getattr {Q : Value → Shared → Prop} {ex : Bool} {R : Addr} (hS : s.heap.get? S = some oS) (hc : oS.cls = .type "function") (hd : oS.dict = some dS) (hdat : oS.data = .func fd) (hdS : s.heap.get? dS = some (dictOf [⟨hs, .str (Str.ofString "read") ts, .ref R⟩] 1)) (h : Q (.ref R) { s with toks := s.toks + 1 }) :
    wpAny (model prog w) A (getAttr (.ref S) "read" ex) Q E s := by
  have hT1 : ({ s with toks := s.toks + 1 } : Shared).TypeIs (.ref S) "function" := ⟨oS, hS, hc⟩
  unfold getAttr getAttrBy
  refine wpAny_bind (wpAny_mkText (wpAny_holding (wpAny_bind (wpAny_typeOf hT1 (wpAny_bind (wpAny_of_eq slot_fn_ga.lookup ?_))))))
  dsimp only
  rw [if_neg (by decide)]
  unfold getAttrByItsOwn
  refine wpAny_bind (wpAny_pure ?_)
  refine wpAny_bind (wpAny_attempt (wpAny_holding ?_))
  unfold callGetattribute
  rw [if_neg (by cases ex <;> decide)]
  unfold boundAndCalled
  refine wpAny_bind (wpAny_of_eq (slot_fn_ga.bind _) ?_)
  refine wpAny_call_entry slot_fn_ga hT1 PySem.F.entry_object_getattribute ?_ (PySem.F.args_object_getattribute_2 _ _)
  refine wpAny_bind (wpAny_pure (wpAny_bind (wpAny_pure (wpAny_bind (wpAny_typeOf hT1 (wpAny_bind (fn_find (s := { s with toks := s.toks + 1 }) hS hc hd hdat hdS ?_)))))))
  exact wpAny_pure ⟨_, rfl, wpAny_pure h⟩
theorem fn_method {Q : Value × List Value → Shared → Prop} {pl : Sem Bool} {R : Addr} (hS : s.heap.get? S = some oS) (hc : oS.cls = .type "function") (hd : oS.dict = some dS) (hdat : oS.data = .func fd) (hdS : s.heap.get? dS = some (dictOf [⟨hs, .str (Str.ofString "read") ts, .ref R⟩] 1)) (h : Q (.ref R, []) { s with toks := s.toks + 1 }) :
    wpAny (model prog w) A (getMethod (.ref S) "read" pl) Q E s := by
  have hT : s.TypeIs (.ref S) "function" := ⟨oS, hS, hc⟩
  have hcan := canon_oga
  unfold getMethod
  refine wpAny_bind (wpAny_specialOf hT slot_fn_ga.lookup ?_)
  dsimp only
  rw [hcan, if_neg (by decide)]
  refine wpAny_bind (wpAny_specialOf hT look_fn_hook ?_)
  rw [if_neg (by decide)]
  refine wpAny_bind (wpAny_specialOf hT look_fn_read ?_)
  dsimp only
  exact wpAny_bind (fn_getattr hS hc hd hdat hdS (wpAny_pure h))
end
end Mine
end

section
open PySem PySem.W PyProof.Rows PySem.Calls
namespace Mine
theorem LexOk.fnAt {w : World} {x : Str} {I : LexIds} (O : LexOk w x I) {g h : Heap} {L : Addr} {news : List (Addr × Obj)} (N : News g L h news) (hs : ∀ p ∈ I.fix, p ∈ news) : FnAt I.R h :=
  let ⟨oc, od, fd, sl, hm⟩ := O.fn; ⟨oc, od, fd, sl, (N _ (hs _ hm)).1⟩
local macro_rules | `(tactic| walk_at "callWith ref") => `(tactic| ((with_reducible rename News _ _ _ _ => aN); refine' callWith_F (LexOk.fnAt (by assumption) aN (fun p hp => by walk_at "my mem")) ?_; k_whole))
local macro_rules | `(tactic| walk_at "FnAt") => `(tactic| ((with_reducible rename News _ _ _ _ => aN); exact LexOk.fnAt (by assumption) aN (fun p hp => by walk_at "my mem")))
local macro_rules | `(tactic| walk_at "And") => `(tactic| ((with_reducible show FnAt _ _ ∧ _); (with_reducible rename News _ _ _ _ => aN); refine ⟨LexOk.fnAt (by assumption) aN (fun p hp => by walk_at "my mem"), ?_⟩; try dsimp only [List.nil_append, List.cons_append]))
local macro_rules | `(tactic| walk_at "getMethod ref") => `(tactic| ((with_reducible rename News _ _ _ _ => aN); refine fn_method (aN.get (by k_mem)) (LexOk.cls (by assumption)) (LexOk.dict (by assumption)) (Exists.choose_spec (LexOk.data (by assumption))) (aN.get (by k_mem)) ?_))
local macro_rules | `(tactic| walk_at "call ref") => `(tactic| refine hold ?_)
local macro_rules | `(tactic| walk_at "my all") => `(tactic| first | exact List.forall_mem_nil _ | assumption | (refine' List.forall_mem_cons.mpr ⟨?a, ?b⟩; (case a => first | assumption | k_ne); (case b => walk_at "my all")))
local macro_rules | `(tactic| walk_at "my upd") => `(tactic| first | (refine' Upd.head ?a; (case a => walk_at "my all")) | (refine' Upd.tail ?a ?b; (case a => first | assumption | k_ne); (case b => walk_at "my upd")))
local macro_rules | `(tactic| k_upd) => `(tactic| walk_at "my upd")
theorem lex_apart {w : World} {x : Str} {I : LexIds} (O : LexOk w x I) {g h : Heap} {L : Addr} {ln : Int} {tl tp : Tok} {i : Nat} (N : News g L h (I.all ln tl i tp)) :
    (@Ne Nat I.AT I.d ∧ @Ne Nat I.a I.d ∧ @Ne Nat I.S I.d ∧ @Ne Nat I.dS I.d ∧ @Ne Nat I.pb I.d) ∧ (@Ne Nat I.d I.AT ∧ @Ne Nat I.a I.AT ∧ @Ne Nat I.S I.AT ∧ @Ne Nat I.dS I.AT ∧ @Ne Nat I.pb I.AT) ∧ (∀ p ∈ I.fix, p.1 ≠ I.d) ∧ (∀ p ∈ I.fix, p.1 ≠ I.AT) := by
  have hd := fun (p : Addr × Obj) hp hne => ne_obj N (M := I.d) (o := lexDict I.q I.k ln tl I.tw I.S I.pb) (.head _) (p := p) hp hne
  have hA := fun (p : Addr × Obj) hp hne => ne_obj N (M := I.AT) (o := listOf #[.int i tp] I.n) (.tail _ (.head _)) (p := p) hp hne
  have oc := O.cls
  obtain ⟨fd, od⟩ := O.data
  refine ⟨⟨hd (I.AT, listOf #[.int i tp] I.n) (by k_mem) ?_, hd (I.a, instObj 150 I.d) (by k_mem) ?_, hd (I.S, I.oS) (by k_mem) ?_, hd (I.dS, dictOf [⟨I.hs, .str (Str.ofString "read") I.ts, .ref I.R⟩] 1) (by k_mem) ?_, hd (I.pb, listOf #[] 0) (by k_mem) ?_⟩, ⟨hA (I.d, lexDict I.q I.k ln tl I.tw I.S I.pb) (by k_mem) ?_, hA (I.a, instObj 150 I.d) (by k_mem) ?_, hA (I.S, I.oS) (by k_mem) ?_, hA (I.dS, dictOf [⟨I.hs, .str (Str.ofString "read") I.ts, .ref I.R⟩] 1) (by k_mem) ?_, hA (I.pb, listOf #[] 0) (by k_mem) ?_⟩, fun p hp => (O.apart p hp).1, fun p hp => (O.apart p hp).2⟩
  · intro e; simp [W.listOf, dictOf] at e
  · intro e; simp [instObj, dictOf] at e
  · intro e; dsimp only at e; rw [e] at od; cases od
  · intro e; simp [dictOf] at e
  · intro e; simp [W.listOf, dictOf] at e
  · intro e; simp [W.listOf, dictOf] at e
  · intro e; simp [instObj, W.listOf] at e
  · intro e; dsimp only at e; rw [e] at od; cases od
  · intro e; simp [W.listOf, dictOf] at e
  · intro e; simp [W.listOf] at e
theorem news_ex {g h : Heap} {L : Addr} {f : Tok → List (Addr × Obj)} {t : Tok} (N : News g L h (f t)) : ∃ t, ∀ p ∈ f t, h.get? p.1 = some p.2 := ⟨t, fun p hp => (N p hp).1⟩
theorem read_char_code : ∀ {w : World} {dp u : Nat} {fr : Option (List Env)} {gd : Option (List Code)} {h₀ : Heap} {mg mb : Str → Option Value} {s : Shared} {p : Program} {loose : List Str} {mean : ExcName → Option Value}
    {Q E : Value → Shared → Prop} (X : (hd.heap_1 w.params).In h₀) (T : Top p loose mean mg mb h₀) (hk : ∀ b o, h₀.get? b = some o → s.heap.get? b = some o) (hroom : dp < 500) (hu : u < 5000)
    (x : Str) (I : LexIds) (O : LexOk w x I) (ln : Int) (tl : Tok) (i : Nat) (tp : Tok) (hi : i ≤ x.length) (hln : 0 ≤ ln ∧ ln ≤ 100000) (hm : ∀ p ∈ I.all ln tl i tp, s.heap.get? p.1 = some p.2 ∧ h₀.get? p.1 = none)
    (h : ∀ t tl' tp' h' tk', (∀ p ∈ I.all (if signAt x i = ⟨#[10]⟩ then ln + 1 else ln) tl' (nextAt x i) tp', h'.get? p.1 = some p.2) → (∀ b o, b ≠ I.d → b ≠ I.AT → s.heap.get? b = some o → h'.get? b = some o) → Q (.str (signAt x i) t) { s with heap := h', toks := tk' }),
    codeAny (model PySem.Challenge.rw_re0035_01.row.prog w) ⟨none, dp, fr, gd, u⟩ (.call (.ref 133) ⟨[.ref I.a], []⟩) (fun r s' => match r with | .ok (.ret v) => Q v s' | .ok _ => False | .error e => E e s') s := by
  k_fill
  intro w dp u fr gd h₀ mg mb s p loose mean Q E X T hk hroom hu x I O ln tl i tp hi hln hm h
  have hk2 : ∀ b o, h₀.get? b = some o → s.heap.get? b = some o := hk
  refine' enterCode (as := (I.all ln tl i tp).map (·.1)) (binds := [(Str.ofString "self", .ref I.a)]) X T hk ?kN ?k6 ?k7 ?k8 ?k9 ?kB ?c2 ?c3 ?c4 ?c5 ?_
  case kN =>
    intro b hb
    obtain ⟨p, hp, rfl⟩ := List.mem_map.mp hb
    exact (hm p hp).2
  case k6 => k_is
  case k7 => k_is
  case k8 => simp only [recursionLimit]; omega
  case k9 => exact BindsTo.of_eq rfl
  case c5 => decide
  case kB => exact locs rfl
  case c2 => exact rfl
  case c3 => exact rfl
  case c4 => exact rfl
  intro g L h₁ tk₁ hg hL F' hk₁ X' T'
  have N' : News g L h₁ (I.all ln tl i tp) := fun p hp => ⟨hk₁ _ _ (hm p hp).1, Nat.ne_of_lt (hL ▸ Heap.lt_size (hm p hp).1), hg ▸ hideAll_none _ (List.mem_map_of_mem hp)⟩
  clear X T hk hk₁
  obtain ⟨⟨d1, d2, d3, d4, d5⟩, ⟨e1, e2, e3, e4, e5⟩, d6, e6⟩ := lex_apart O N'
  have hAL : @LT.lt Nat _ I.AT L := hL ▸ Heap.lt_size (hm (I.AT, listOf #[.int i tp] I.n) (by k_mem)).1
  k_steps
  unfold Hold
  (with_reducible rename News _ _ _ _ => N₁)
  (with_reducible rename Fr _ _ _ _ => F₁)
  refine O.spec X' T' F₁.keep (by dsimp only; omega) (fun p hp => (N₁ p (by walk_at "my mem")).1) (fun p hp => (N₁ p (by walk_at "my mem")).2.2) (N₁ (I.AT, listOf #[.int i tp] I.n) (by k_mem)).2.2 i tp _ I.n (N₁.get (by k_mem)) hi ?_
  intro t tp' h₂ tk₂ hA₂ hk₂
  obtain ⟨F₂, N₂⟩ := over_upd (o' := listOf #[.int (nextAt x i) tp'] I.n) F₁ N₁ (by walk_at "my upd") hAL hk₂ hA₂
  clear F₁ N₁ hk₂
  have kp : ∀ {h' : Heap} {m' : Str → Option Value}, Fr g L h' m' → (∀ p ∈ I.rest, h'.get? p.1 = some p.2) → ∀ b o, b ≠ I.d → b ≠ I.AT → s.heap.get? b = some o → h'.get? b = some o := by
    intro h' m' FF NN b o n1 n2 e
    by_cases hb : b ∈ I.rest.map (·.1)
    · obtain ⟨p, hp, rfl⟩ := List.mem_map.mp hb
      have q := (hm p (.tail _ (.tail _ hp))).1
      rw [e] at q
      rw [Option.some.inj q]
      exact NN p hp
    · refine FF.keep b o (hg ▸ get_hide e ?_)
      intro hb'
      rcases List.mem_cons.mp hb' with e | hb'
      · exact n1 e
      rcases List.mem_cons.mp hb' with e | hb'
      · exact n2 e
      · exact hb hb'
  k_steps
  · (with_reducible rename News _ _ _ _ => NN)
    (with_reducible rename Fr _ _ _ _ => FF)
    rename _ = true => hb
    have e : signAt x i = ⟨#[10]⟩ := eq_of_beq hb
    obtain ⟨tl', hall⟩ := news_ex (f := fun tl' => I.all (ln + 1) tl' (nextAt x i) tp') NN
    refine h t tl' tp' _ _ ?_ (kp FF fun p hp => (NN p (.tail _ (.tail _ hp))).1)
    rw [if_pos e]
    exact hall
  · (with_reducible rename News _ _ _ _ => NN)
    (with_reducible rename Fr _ _ _ _ => FF)
    rename _ = false => hb
    have e : signAt x i ≠ ⟨#[10]⟩ := fun e => by rw [e] at hb; exact absurd hb (by decide)
    refine h t tl tp' _ _ ?_ (kp FF fun p hp => (NN p (.tail _ (.tail _ hp))).1)
    rw [if_neg e]
    exact fun p hp => (NN p hp).1
theorem read_char_c : ∀ {w : World} {dp u : Nat} {fr : Option (List Env)} {gd : Option (List Code)} {h₀ : Heap} {mg mb : Str → Option Value} {s : Shared} {p : Program} {loose : List Str} {mean : ExcName → Option Value}
    {Q E : Value → Shared → Prop} (X : (hd.heap_1 w.params).In h₀) (T : Top p loose mean mg mb h₀) (hk : ∀ b o, h₀.get? b = some o → s.heap.get? b = some o) (hroom : dp < 500) (hu : u < 5000)
    (x : Str) (I : LexIds) (O : LexOk w x I) (ln : Int) (tl : Tok) (i : Nat) (tp : Tok) (hi : i ≤ x.length) (hln : 0 ≤ ln ∧ ln ≤ 100000) (hm : ∀ p ∈ I.all ln tl i tp, s.heap.get? p.1 = some p.2 ∧ h₀.get? p.1 = none)
    (h : ∀ t tl' tp' h' tk', (∀ p ∈ I.all (if signAt x i = ⟨#[10]⟩ then ln + 1 else ln) tl' (nextAt x i) tp', h'.get? p.1 = some p.2) → (∀ b o, b ≠ I.d → b ≠ I.AT → s.heap.get? b = some o → h'.get? b = some o) → Q (.str (signAt x i) t) { s with heap := h', toks := tk' }),
    wpAny (model PySem.Challenge.rw_re0035_01.row.prog w) ⟨none, dp, fr, gd, u⟩ (call (.ref 133) [.ref I.a]) Q E s := by
  intro w dp u fr gd h₀ mg mb s p loose mean Q E X T hk hroom hu x I O ln tl i tp hi hln hm h
  exact wpAny_call (read_char_code (Q := Q) (E := E) X T hk hroom hu x I O ln tl i tp hi hln hm h)
end Mine
end

section
open PySem PySem.W PyProof.Rows PySem.Calls
namespace Mine
/-- iter(f, sentinel) -/
noncomputable abbrev callIt (f : Addr) (t : Tok) : Obj := { cls := .type "callable_iterator", data := .fields #[.ref f, .str (Str.ofString "") t, .bool false] }
noncomputable abbrev callEnd : Obj := { cls := .type "callable_iterator", data := .fields #[.none, .none, .bool true] }
theorem look_meth_call : typeLookup (.type "method") "__call__" = pure (some (.builtin "method.__call__")) := by rw [typeLookup_type, builtinLookup_eq_fast]; kernel_rfl
section
variable {prog : Program} {w : World} {A : Around} {E : Value → Shared → Prop} {s : Shared} {f : Addr} {of : Obj}
theorem iter_two {Q : Value → Shared → Prop} {t : Tok} (hf : s.heap.get? f = some of) (hc : of.cls = .type "method") (h : Q (.ref s.heap.objs.size) { s with heap := s.heap.push (callIt f t) }) :
    wpAny (model prog w) A (call (.builtin "iter") [.ref f, .str (Str.ofString "") t]) Q E s := by
  have hT : s.TypeIs (.ref f) "method" := ⟨of, hf, hc⟩
  refine call_function_tree (id := "iter") (by decide +kernel) (by decide +kernel) kdk_entry_iter (by unfold argsOk; kernel_rfl) ?_
  unfold Builtin.«iter»
  refine wpAny_bind (wpAny_of_eq (a := [.ref f, .str (Str.ofString "") t]) rfl ?_)
  refine wpAny_bind (wpAny_specialOf hT look_meth_call ?_)
  rw [if_neg (by decide)]
  refine wpAny_bind (wpAny_rule ?_)
  unfold newFields
  exact wpAny_bind (wpAny_newObj_type (wpAny_pure h) (by size_fits))
end
theorem callBorrowed_eq (f : Value) (pos : List Value) : callBorrowed f pos = (call f pos).keep [borrowed] := by
  unfold callBorrowed call runValue
  show Sem.call _ _ _ _ _ = Sem.call _ _ _ _ _
  congr 1
  funext r
  cases r with
  | error e => rfl
  | ok f => cases f <;> rfl
theorem slot_callit_next : Slot "callable_iterator" "__next__" "callable_iterator.__next__" := .of (owner := "callable_iterator") (n := "__next__") (by rw [typeLookup_type, builtinLookup_eq_fast]; kernel_rfl) (by decide +kernel) (by decide +kernel) (by decide +kernel)
  (by first | exact .inl (by decide +kernel) | exact .inr (by decide +kernel)) (by rw [isSubtype_type]; kernel_rfl)
theorem slot_callit_iter : Slot "callable_iterator" "__iter__" "callable_iterator.__iter__" := .of (owner := "callable_iterator") (n := "__iter__") (by rw [typeLookup_type, builtinLookup_eq_fast]; kernel_rfl) (by decide +kernel) (by decide +kernel) (by decide +kernel)
  (by first | exact .inl (by decide +kernel) | exact .inr (by decide +kernel)) (by rw [isSubtype_type]; kernel_rfl)
theorem entry_callit_next : entryFor table "callable_iterator.__next__" = some Builtin.«callable_iterator.__next__» := entryFor_of_tree (by kernel_rfl)
theorem args_callit_next (a : Value) : argsOk "callable_iterator.__next__" ⟨[a], []⟩ := by unfold argsOk; kernel_rfl
theorem entry_callit_iter : entryFor table "callable_iterator.__iter__" = some Builtin.«dict_keyiterator.__iter__» := entryFor_alias (id' := "dict_keyiterator.__iter__") (by rw [fastTable_eq_tree]; kernel_rfl) (by decide +kernel) (by decide +kernel) (by rw [fastTable_eq_tree]; kernel_rfl)
theorem args_callit_iter (a : Value) : argsOk "callable_iterator.__iter__" ⟨[a], []⟩ := by unfold argsOk; kernel_rfl
section
variable {prog : Program} {w : World} {A : Around} {E : Value → Shared → Prop} {s : Shared} {it q a f : Addr} {t : Tok} {oF : Obj} {fd : FuncData}
theorem borrows_meth {Q : Bool → Shared → Prop} (hq : s.heap.get? q = some (methodObj (.ref f) (.ref a))) (hf : s.heap.get? f = some oF) (hd : oF.data = .func fd) (h : Q true s) : wpAny (model prog w) A (borrowsExactly (.ref q)) Q E s := by
  unfold borrowsExactly
  refine wpAny_bind (wpAny_load hq ?_)
  show wpAny _ _ (load f >>= _) _ _ _
  refine wpAny_bind (wpAny_load hf ?_)
  rw [hd]
  exact wpAny_pure h
theorem next_call {Q : Option Value → Shared → Prop} (hh : A.handled = none) (hit : s.heap.get? it = some (callIt q t)) (hq : s.heap.get? q = some (methodObj (.ref f) (.ref a))) (hf : s.heap.get? f = some oF) (hd : oF.data = .func fd)
    (hc : wpAny (model prog w) A.in1 (call (.ref q) []) (fun v s' => ∃ x tx, v = .str x tx ∧ s'.heap.get? it = some (callIt q t) ∧ s'.heap.get? q = some (methodObj (.ref f) (.ref a)) ∧ s'.heap.get? f = some oF ∧
      (x ≠ Str.empty → Q (some (.str x tx)) s') ∧ (x = Str.empty → ∀ h' tk', h'.get? it = some callEnd → (∀ b o, b ≠ it → s'.heap.get? b = some o → h'.get? b = some o) → Q none { s' with heap := h', toks := tk' })) (fun _ _ => False) s) :
    wpAny (model prog w) A (pyNext (.ref it)) Q E s := by
  have hT : s.TypeIs (.ref it) "callable_iterator" := ⟨_, hit, rfl⟩
  unfold pyNext
  refine wpAny_bind (wpAny_attempt (wpAny_callSpecial?_slot (name := Str.ofString "__next__") hT slot_callit_next
    (wpAny_call_entry slot_callit_next hT entry_callit_next ?_ (args_callit_next _))))
  unfold Builtin.«callable_iterator.__next__»
  refine wpAny_bind (wpAny_pure ?_)
  refine wpAny_bind (wpAny_field hit rfl (x := .bool false) rfl ?_)
  rw [if_neg (by decide)]
  refine wpAny_bind (wpAny_field hit rfl (x := .ref q) rfl ?_)
  refine wpAny_bind (wpAny_attempt ?_)
  unfold callOutOfASlot
  refine wpAny_bind (borrows_meth hq hf hd ?_)
  rw [if_pos rfl, callBorrowed_eq]
  refine Calls.wpAny_keep (wpAny_mono hc (fun v s' h' => ?_) fun _ _ y => y.elim)
  obtain ⟨x, tx, rfl, h1, h2, h3, hne, hend⟩ := h'
  dsimp only
  refine wpAny_bind (wpAny_field h1 rfl (x := .bool false) rfl ?_)
  rw [if_neg (by decide)]
  refine wpAny_bind (wpAny_field h1 rfl (x := .str (Str.ofString "") t) rfl ?_)
  refine wpAny_bind (wpAny_holding (eqBool_str ?_))
  by_cases hx : x = Str.empty
  · subst hx
    have e : (Str.ofString "" == Str.empty) = true := by decide
    rw [e, if_neg (by decide)]
    refine wpAny_bind (wpAny_rule ?_)
    with_unfolding_all refine wpAny_bind ?_
    with_unfolding_all refine wpAny_bind (wpAny_field h1 rfl (x := .ref q) rfl ?_)
    refine wpAny_bind ?_
    unfold slotLetsGo
    refine wpAny_bind (borrows_meth h2 h3 hd ?_)
    rw [if_pos rfl]
    refine wpAny_pure ?_
    refine wpAny_bind (wpAny_setField_rec h1 (by simp) fun ha g1 sb1 => ?_)
    refine wpAny_bind (wpAny_setField_rec (s := { s' with heap := ha }) g1 (by simp) fun hb g2 sb2 => ?_)
    refine wpAny_setField_rec (s := { s' with heap := hb }) g2 (by simp) fun hc' g3 sb3 => ?_
    dsimp only
    have kp : ∀ b o, b ≠ it → s'.heap.get? b = some o → hc'.get? b = some o := fun b o n e => sb3.extBut b o n (sb2.extBut b o n (sb1.extBut b o n e))
    show wpAny _ _ (newExc (.type "StopIteration") [] >>= _) _ _ _
    refine wpAny_bind ?_
    simp only [newExc, newTuple]
    refine wpAny_bind (wpAny_newObj_type ?_ (by size_fits))
    refine wpAny_bind (m := firstArgMember _ _) (wpAny_of_eq (a := Value.none) (by first | rfl | (simp only [firstArgMember]; rfl)) ?_)
    refine wpAny_newObj_type ?_ (by size_fits)
    simp only [raiseNew]
    refine wpAny_bind (wpAny_handled ?_)
    rw [show A.in1.handled = none from hh]
    refine wpAny_bind (wpAny_pure (wpAny_throw ?_))
    refine wpAny_bind (wpAny_isInstance (T := "StopIteration") (b := true) ⟨_, Heap.get?_push_size _ rfl, rfl⟩ isSubtype_stop ?_)
    exact wpAny_pure (hend rfl _ _ (Heap.get?_push_of_some _ (Heap.get?_push_of_some _ g3)) fun b o n e => Heap.get?_push_of_some _ (Heap.get?_push_of_some _ (kp b o n e)))
  · have e : (Str.ofString "" == x) = false := by
      cases q : (Str.ofString "" == x) with
      | false => rfl
      | true => exact absurd ((eq_of_beq q).symm.trans (by decide)) hx
    rw [e, if_pos (by decide)]
    exact wpAny_pure ⟨_, rfl, wpAny_pure (hne hx)⟩
theorem next_ended {Q : Option Value → Shared → Prop} (hh : A.handled = none) (hit : s.heap.get? it = some callEnd) (h : ∀ h' tk', (∀ b o, s.heap.get? b = some o → h'.get? b = some o) → Q none { s with heap := h', toks := tk' }) : wpAny (model prog w) A (pyNext (.ref it)) Q E s := by
  have hT : s.TypeIs (.ref it) "callable_iterator" := ⟨_, hit, rfl⟩
  unfold pyNext
  refine wpAny_bind (wpAny_attempt (wpAny_callSpecial?_slot (name := Str.ofString "__next__") hT slot_callit_next
    (wpAny_call_entry slot_callit_next hT entry_callit_next ?_ (args_callit_next _))))
  unfold Builtin.«callable_iterator.__next__»
  refine wpAny_bind (wpAny_pure ?_)
  refine wpAny_bind (wpAny_field hit rfl (x := .bool true) rfl ?_)
  dsimp only
  rw [if_pos (by decide)]
  refine wpAny_bind (wpAny_rule ?_)
  refine wpAny_bind ?_
  show wpAny _ _ (newExc (.type "StopIteration") [] >>= _) _ _ _
  refine wpAny_bind ?_
  simp only [newExc, newTuple]
  refine wpAny_bind (wpAny_newObj_type ?_ (by size_fits))
  refine wpAny_bind (m := firstArgMember _ _) (wpAny_of_eq (a := Value.none) (by first | rfl | (simp only [firstArgMember]; rfl)) ?_)
  refine wpAny_newObj_type ?_ (by size_fits)
  simp only [raiseNew]
  refine wpAny_bind (wpAny_handled ?_)
  rw [show A.in1.handled = none from hh]
  refine wpAny_bind (wpAny_pure (wpAny_throw ?_))
  refine wpAny_bind (wpAny_isInstance (T := "StopIteration") (b := true) ⟨_, Heap.get?_push_size _ rfl, rfl⟩ isSubtype_stop ?_)
  exact wpAny_pure (h _ _ fun b o e => Heap.get?_push_of_some _ (Heap.get?_push_of_some _ e))
theorem iter_self {Q : Value → Shared → Prop} {o : Obj} (hit : s.heap.get? it = some o) (hc : o.cls = .type "callable_iterator") (h : Q (.ref it) s) : wpAny (model prog w) A (pyIter (.ref it)) Q E s := by
  have hT : s.TypeIs (.ref it) "callable_iterator" := ⟨_, hit, hc⟩
  refine wpAny_pyIter_slot hT slot_callit_iter (wpAny_call_entry slot_callit_iter hT entry_callit_iter ?_ (args_callit_iter _))
  show wpAny _ _ (ret (.ref it)) _ _ s
  exact wpAny_pure ⟨_, rfl, "callable_iterator", _, hT, slot_callit_next.lookup, h⟩
end
end Mine
end

section
open PySem PySem.W PyProof.Rows PySem.Calls
namespace Mine
theorem lex_over {I : LexIds} {g h h' : Heap} {L : Addr} {m : Str → Option Value} {pre : List (Addr × Obj)} {ln ln' : Int} {tl tl' tp tp' : Tok} {i i' : Nat} (F : Fr g L h m) (N : News g L h (pre ++ I.all ln tl i tp)) (hp : ∀ p ∈ pre, @Ne Nat p.1 I.d ∧ @Ne Nat p.1 I.AT)
    (hall : ∀ p ∈ I.all ln' tl' i' tp', h'.get? p.1 = some p.2) (hk : ∀ b o, b ≠ I.d → b ≠ I.AT → h.get? b = some o → h'.get? b = some o) : Fr g L h' m ∧ News g L h' (pre ++ I.all ln' tl' i' tp') := by
  have nd := N (I.d, lexDict I.q I.k ln tl I.tw I.S I.pb) (List.mem_append_right _ (.head _))
  have nA := N (I.AT, listOf #[.int i tp] I.n) (List.mem_append_right _ (.tail _ (.head _)))
  refine ⟨⟨F.ns.at' fun o e => hk _ o (Ne.symm nd.2.1) (Ne.symm nA.2.1) e, fun b o e => hk b o (by rintro rfl; rw [nd.2.2] at e; cases e) (by rintro rfl; rw [nA.2.2] at e; cases e) (F.keep b o e), F.above⟩, fun p q => ?_⟩
  rcases List.mem_append.mp q with q | q
  · have z := N p (List.mem_append_left _ q)
    exact ⟨hk _ _ (hp p q).1 (hp p q).2 z.1, z.2⟩
  · refine ⟨hall p q, ?_⟩
    rcases List.mem_cons.mp q with rfl | q
    · exact nd.2
    rcases List.mem_cons.mp q with rfl | q
    · exact nA.2
    · exact (N p (List.mem_append_right _ (.tail _ (.tail _ q)))).2
theorem it_apart {I : LexIds} {g h : Heap} {L : Addr} {it q : Addr} {oit : Obj} {ln : Int} {tl tp : Tok} {i : Nat} (hc : oit.cls = .type "callable_iterator") (N : News g L h ((it, oit) :: (q, methodObj (.ref 133) (.ref I.a)) :: I.all ln tl i tp)) :
    (∀ p ∈ [(it, oit), (q, methodObj (.ref 133) (.ref I.a))], @Ne Nat p.1 I.d ∧ @Ne Nat p.1 I.AT) ∧ @Ne Nat q it := by
  have hd := fun (p : Addr × Obj) hp hne => ne_obj N (M := I.d) (o := lexDict I.q I.k ln tl I.tw I.S I.pb) (by k_mem) (p := p) hp hne
  have hA := fun (p : Addr × Obj) hp hne => ne_obj N (M := I.AT) (o := listOf #[.int i tp] I.n) (by k_mem) (p := p) hp hne
  refine ⟨List.forall_mem_cons.mpr ⟨⟨hd (it, oit) (by k_mem) ?_, hA (it, oit) (by k_mem) ?_⟩, List.forall_mem_cons.mpr ⟨⟨hd (q, methodObj (.ref 133) (.ref I.a)) (by k_mem) ?_, hA (q, methodObj (.ref 133) (.ref I.a)) (by k_mem) ?_⟩, List.forall_mem_nil _⟩⟩, ne_obj N (M := it) (o := oit) (by k_mem) (p := (q, methodObj (.ref 133) (.ref I.a))) (by k_mem) ?_⟩
  · intro e; dsimp only at e; rw [e] at hc; simp [dictOf] at hc
  · intro e; dsimp only at e; rw [e] at hc; simp [W.listOf] at hc
  · intro e; simp [methodObj, dictOf] at e
  · intro e; simp [methodObj, W.listOf] at e
  · intro e; dsimp only at e; rw [← e] at hc; simp [methodObj] at hc
theorem sign_some {x : Str} {i c : Nat} (h : x.cps[i]? = some c) : signAt x i = ⟨#[c]⟩ := by unfold signAt; rw [h]
theorem next_char : ∀ {w : World} {dp u : Nat} {fr : Option (List Env)} {gd : Option (List Code)} {g : Heap} {mg mb : Str → Option Value} {s : Shared} {p : Program} {loose : List Str} {mean : ExcName → Option Value} {L : Addr} {m : Str → Option Value}
    {Q : Option Value → Shared → Prop} {E : Value → Shared → Prop} (X : (hd.heap_1 w.params).In g) (T : Top p loose mean mg mb g) (hroom : dp < 450) (hu : u < 4500)
    (x : Str) (I : LexIds) (O : LexOk w x I) (ln : Int) (tl : Tok) (i : Nat) (tp : Tok) (it q : Addr) (tq : Tok) (hi : i ≤ x.length) (hln : 0 ≤ ln ∧ ln ≤ 90000) (hif : ∀ p ∈ I.fix, @Ne Nat p.1 it) (F : Fr g L s.heap m)
    (N : News g L s.heap ((it, callIt q tq) :: (q, methodObj (.ref 133) (.ref I.a)) :: I.all ln tl i tp))
    (hsome : ∀ c t tl' tp' h' tk', x.cps[i]? = some c → Fr g L h' m → News g L h' ((it, callIt q tq) :: (q, methodObj (.ref 133) (.ref I.a)) :: I.all (if c = 10 then ln + 1 else ln) tl' (i + 1) tp') → Q (some (.str ⟨#[c]⟩ t)) { s with heap := h', toks := tk' })
    (hnone : ∀ tl' tp' h' tk', i = x.length → Fr g L h' m → News g L h' ((it, callEnd) :: (q, methodObj (.ref 133) (.ref I.a)) :: I.all ln tl' i tp') → Q none { s with heap := h', toks := tk' }),
    wpAny (model PySem.Challenge.rw_re0035_01.row.prog w) ⟨none, dp, fr, gd, u⟩ (pyNext (.ref it)) Q E s := by
  intro w dp u fr gd g mg mb s p loose mean L m Q E X T hroom hu x I O ln tl i tp it q tq hi hln hif F N hsome hnone
  obtain ⟨oF, fd, e1, e2⟩ : ∃ oF fd, g.get? 133 = some oF ∧ oF.data = .func fd := ⟨_, _, X 133 _ rfl, rfl⟩
  obtain ⟨ap, hqi⟩ := it_apart rfl N
  have n133 : (133 : Addr) ≠ it := fun e => by
    have := (N (it, callIt q tq) (.head _)).2.2
    rw [← e, e1] at this; cases this
  refine next_call (q := q) (a := I.a) (f := 133) (t := tq) (oF := oF) (fd := fd) rfl (N.get (by k_mem)) (N.get (by k_mem)) (F.keep _ _ e1) e2 ?_
  refine call_meth N (.tail _ (.head _)) ?_
  refine codeAny_mono (read_char_code (Q := fun v s' => ∃ x tx, v = .str x tx ∧ s'.heap.get? it = some (callIt q tq) ∧ s'.heap.get? q = some (methodObj (.ref 133) (.ref I.a)) ∧ s'.heap.get? 133 = some oF ∧
      (x ≠ Str.empty → Q (some (.str x tx)) s') ∧ (x = Str.empty → ∀ h' tk', h'.get? it = some callEnd → (∀ b o, b ≠ it → s'.heap.get? b = some o → h'.get? b = some o) → Q none { s' with heap := h', toks := tk' })) (E := fun _ _ => False) X T F.keep (by show dp < 500; omega) (by show u + 1 < 5000; omega) x I O ln tl i tp hi (by omega) (fun p hp => ⟨(N p (.tail _ (.tail _ hp))).1, (N p (.tail _ (.tail _ hp))).2.2⟩) ?_) (fun r s' z => z)
  intro t tl' tp' h' tk' hall hk
  obtain ⟨F', N'⟩ := lex_over (pre := [(it, callIt q tq), (q, methodObj (.ref 133) (.ref I.a))]) F N ap hall hk
  refine ⟨signAt x i, t, rfl, N'.get (by k_mem), N'.get (by k_mem), F'.keep _ _ e1, fun hne => ?_, fun he h'' tk'' hit hk'' => ?_⟩
  · cases hc : x.cps[i]? with
    | none => exact absurd (by unfold signAt; rw [hc]) hne
    | some c =>
      have hs := sign_some hc
      rw [hs] at N' ⊢
      have hlt : i < x.length := (Array.getElem?_eq_some_iff.mp hc).1
      have en : nextAt x i = i + 1 := by unfold nextAt; rw [if_pos hlt]
      rw [en] at N'
      have ec : (if (⟨#[c]⟩ : Str) = ⟨#[10]⟩ then ln + 1 else ln) = if c = 10 then ln + 1 else ln := by
        by_cases q : c = 10
        · rw [if_pos q, if_pos (by rw [q])]
        · rw [if_neg q, if_neg (by simpa using q)]
      rw [ec] at N'
      exact hsome c t tl' tp' h' tk' hc F' N'
  · have hlen : i = x.length := by
      by_cases hlt : i < x.length
      · have hc : x.cps[i]? = some (x.cps[i]'hlt) := Array.getElem?_eq_getElem hlt
        rw [sign_some hc] at he
        exact absurd (show (1 : Nat) = 0 from congrArg Str.length he) (by decide)
      · omega
    have en : nextAt x i = i := by unfold nextAt; rw [if_neg (by omega)]
    rw [he, if_neg (by decide), en] at N'
    have nit := N' (it, callIt q tq) (.head _)
    have hneq : ∀ p ∈ (q, methodObj (.ref 133) (.ref I.a)) :: I.all ln tl' i tp', @Ne Nat p.1 it := by
      have hI := fun (p : Addr × Obj) hp hne => ne_obj N' (M := it) (o := callIt q tq) (by k_mem) (p := p) hp hne
      have oc := O.cls
      refine List.forall_mem_cons.mpr ⟨hqi, List.forall_mem_cons.mpr ⟨Ne.symm (ap _ (.head _)).1, List.forall_mem_cons.mpr ⟨Ne.symm (ap _ (.head _)).2, List.forall_mem_cons.mpr ⟨hI (I.a, instObj 150 I.d) (by k_mem) ?_, List.forall_mem_cons.mpr ⟨hI (I.S, I.oS) (by k_mem) ?_,
        List.forall_mem_cons.mpr ⟨hI (I.dS, dictOf [⟨I.hs, .str (Str.ofString "read") I.ts, .ref I.R⟩] 1) (by k_mem) ?_, List.forall_mem_cons.mpr ⟨hI (I.pb, listOf #[] 0) (by k_mem) ?_, hif⟩⟩⟩⟩⟩⟩⟩
      · intro e; simp [instObj] at e
      · intro e; dsimp only at e; rw [e] at oc; injection oc with oc; exact absurd oc (by decide)
      · intro e; simp [dictOf] at e
      · intro e; simp [W.listOf] at e
    refine hnone tl' tp' h'' tk'' hlen ⟨F'.ns.at' fun o e => hk'' _ o (Ne.symm nit.2.1) e, fun b o e => hk'' b o (by rintro rfl; rw [nit.2.2] at e; cases e) (F'.keep b o e), F'.above⟩ fun p hp => ?_
    rcases List.mem_cons.mp hp with rfl | hp
    · exact ⟨hit, nit.2⟩
    · have z := N' p (.tail _ hp)
      exact ⟨hk'' _ _ (hneq p hp) z.1, z.2⟩
end Mine
end

section
open PySem PySem.W PyProof.Rows PySem.Calls
namespace Mine
/-- what an element must leave -/
inductive EltEnd (g : Heap) (C D I : Addr) (oD oI : Obj) (d : Drawn) (os : OsState) (J : Value → List (Addr × Obj) → Array GenState → Prop) (y : Value) (s' : Shared) : Prop
  | mk : ∀ m' news' gs' h' tk', (s' = ⟨h', gs', d, tk', os⟩) → (Fr g C h' m') → (News g C h' ((D, oD) :: (I, oI) :: news')) → ((∀ p ∈ news', p.1 ≠ D ∧ p.1 ≠ I)) → (J y news' gs') → EltEnd g C D I oD oI d os J y s'
/-- between the turns of a comprehension -/
inductive CompInv (g : Heap) (D I C : Addr) (n : Nat) (St : Nat → Heap → Prop) (J : Nat → List Value → List (Addr × Obj) → Array GenState → Prop) (d : Drawn) (os : OsState) (tk₀ : Nat) (k : Nat) (s' : Shared) : Prop
  | mk : ∀ (ys : List Value) m₁ news₁ gs h tk nn, s' = ⟨h, gs, d, tk, os⟩ → St ys.length h → J ys.length ys news₁ gs → (∀ p ∈ news₁, p.1 ≠ D ∧ p.1 ≠ I) → ys.length ≤ n → k = n + 1 - ys.length → @LE.le Nat _ tk₀ tk →
      Fr g C h m₁ → News g C h ((D, listOf ys.toArray nn) :: news₁) → CompInv g D I C n St J d os tk₀ k s'
section
variable {prog : Program} {w : World} {A : Around} {E : Value → Shared → Prop} {env : Env}
/-- the turn is told that no token was taken back -/
theorem comp_coreT {elt iter : Expr} {x : Str} {px : Pos} {scope : Scope} {cl : List (Str × Addr)} {pos : Pos} {s₂ : Shared} {I : Addr} {fp wr as : List Addr} {n : Nat} {P : Nat → Value → Prop} {St : Nat → Heap → Prop} {RR : Value → Addr → Result → Shared → Prop} {news₀ : List (Addr × Obj)}
    (J : Nat → List Value → List (Addr × Obj) → Array GenState → Prop)
    (W : Walks prog w A I fp wr n P St) (hIf : I ∈ fp) (hn : n ≤ 1000) (hst : St 0 s₂.heap) (hwr : ∀ b ∈ wr, b = I) (hfp : ∀ b ∈ fp, b = I ∨ (b ∉ as ∧ ∃ o, s₂.heap.get? b = some o)) (hIo : ∀ i h, St i h → ∃ o, h.get? I = some o)
    (hN : ∀ p ∈ news₀, s₂.heap.get? p.1 = some p.2 ∧ p.1 ∈ as) (hIas : ∀ p ∈ news₀, p.1 ≠ I) (hj : J 0 [] news₀ s₂.gens)
    (hcell : ∀ y ∈ scope.names, y.2 ≠ .cell) (hkind : scope.kind = .function) (hx : scope.names.lookup x = some .local)
    (turn : ∀ (i : Nat) (v : Value) (ys : List Value) (D C : Addr) (oI : Obj) (m₁ : Str → Option Value) (news₁ : List (Addr × Obj)) (gs : Array GenState) (h : Heap) (tk nn : Nat) (g : Heap), i < n → P i v → J i ys news₁ gs → g = hideAll s₂.heap (I :: as) → s₂.heap.get? D = none → s₂.heap.get? C = none → (∀ p ∈ news₁, p.1 ≠ D ∧ p.1 ≠ I) → ys.length = i → @LE.le Nat _ s₂.toks tk →
      Fr g C h (fun y => if y = x then some v else m₁ y) → News g C h ((D, listOf ys.toArray nn) :: (I, oI) :: news₁) →
      wpAny (model prog w) A (eval elt (compEnvC scope cl C env)) (EltEnd g C D I (listOf ys.toArray nn) oI s₂.drawn s₂.os fun y news' gs' => J (i + 1) (ys ++ [y]) news' gs') (fun _ _ => False) ⟨h, gs, s₂.drawn, tk, s₂.os⟩)
    (done : ∀ (D C : Addr) (ys : List Value) (m₁ : Str → Option Value) (news₁ : List (Addr × Obj)) (gs : Array GenState) (h : Heap) (tk nn : Nat) (g : Heap), J n ys news₁ gs → ys.length = n → g = hideAll s₂.heap (I :: as) → s₂.heap.get? D = none → s₂.heap.get? C = none → D ≠ C → (∀ p ∈ news₁, p.1 ≠ D) → Fr g C h m₁ → News g C h ((D, listOf ys.toArray nn) :: news₁) → RR (.ref D) C (.ok .next) ⟨h, gs, s₂.drawn, tk, s₂.os⟩) :
    wpAny (model prog w) A (newList []) (fun acc s₃ => wpAny (model prog w) A (newFunctionEnv scope env.globals cl [] env.qual none .none (some env)) (fun cenv s₄ =>
      codeAny (model prog w) A (.compStart (.ListComp elt [⟨.Name x px, iter, [], 0⟩] scope pos) 0 (.ref I) acc { cenv with scope := relabel scope env }) (RR acc cenv.locals) s₄) E s₃) E s₂ := by
  refine wpAny_newObj_type (wpAny_newFunctionEnv hcell (by intro y hy; simp at hy) (fun h₁ hns₁ hsb₁ => ?_) hkind)
  dsimp only at hns₁ hsb₁ ⊢
  generalize hH2 : s₂.heap.push { cls := .type "list", dict := none, data := .seq ([] : List Value).toArray } = H2 at hns₁ hsb₁ ⊢
  have hC : H2.objs.size = s₂.heap.objs.size + 1 := by rw [← hH2, Heap.size_push]
  have hDC : s₂.heap.objs.size ≠ H2.objs.size := by rw [hC]; exact Nat.ne_of_lt (Nat.lt_succ_self _)
  have below : ∀ b, b < s₂.heap.objs.size → b ≠ H2.objs.size ∧ b ≠ s₂.heap.objs.size := fun b hb => ⟨by rw [hC]; exact Nat.ne_of_lt (Nat.lt_succ_of_lt hb), Nat.ne_of_lt hb⟩
  have old : ∀ b o, s₂.heap.get? b = some o → h₁.get? b = some o := fun b o e => hsb₁.extBut b o (below b (Heap.lt_size e)).1 (Heap.get?_push_of_some _ (hH2 ▸ Heap.get?_push_of_some _ e))
  have hacc : h₁.get? s₂.heap.objs.size = some (listOf ([] : List Value).toArray 0) := hsb₁.extBut _ _ hDC (Heap.get?_push_of_some _ (hH2 ▸ Heap.get?_push_size _ rfl))
  have hst₁ : St 0 h₁ := W.frame _ _ _ hst fun b _ o e => old b o e
  have fresh : ∀ a, s₂.heap.objs.size ≤ a → s₂.heap.get? a = none := fun a ha => by
    cases e : s₂.heap.get? a with
    | none => rfl
    | some o' => exact absurd (Heap.lt_size e) (Nat.not_lt.mpr ha)
  obtain ⟨oI₀, hoI₀⟩ := hIo _ _ hst
  have hIlt : I < s₂.heap.objs.size := Heap.lt_size hoI₀
  have hCle : s₂.heap.objs.size ≤ H2.objs.size := by rw [hC]; exact Nat.le_succ _
  -- the base and what it tells
  generalize hg : hideAll s₂.heap (I :: as) = g at turn done
  have hgn : ∀ a, s₂.heap.get? a = none → g.get? a = none := fun a e => by
    cases q : g.get? a with
    | none => rfl
    | some o => rw [← hg] at q; rw [of_hideAll _ q] at e; cases e
  have F₁ : Fr g H2.objs.size h₁ (fun y => ([] : List (Str × Value)).reverse.lookup y) := ⟨hns₁, fun b o e => old b o (by rw [← hg] at e; exact of_hideAll _ e), by rw [← hg]; exact Nat.le_trans (Nat.le_of_eq (hideAll_size _ _)) hCle⟩
  have N₁ : News g H2.objs.size h₁ ((s₂.heap.objs.size, listOf ([] : List Value).toArray 0) :: news₀) := fun p hp => by
    rcases List.mem_cons.mp hp with rfl | hp
    · exact ⟨hacc, hDC, hgn _ (fresh _ (Nat.le_refl _))⟩
    · have q := hN p hp
      refine ⟨old _ _ q.1, (below _ (Heap.lt_size q.1)).1, by rw [← hg]; exact hideAll_none _ (.tail _ q.2)⟩
  have hgI : g.get? I = none := by rw [← hg]; exact hideAll_none _ (.head _)
  have hIC : I ≠ H2.objs.size := (below _ hIlt).1
  have hID : s₂.heap.objs.size ≠ I := Ne.symm (below _ hIlt).2
  have loop : codeAny (model prog w) A (.compLoop (.ListComp elt [⟨.Name x px, iter, [], 0⟩] scope pos) 0 (.ref I) (.ref s₂.heap.objs.size) (compEnvC scope cl H2.objs.size env))
        (RR (.ref s₂.heap.objs.size) H2.objs.size) { s₂ with heap := h₁, toks := s₂.toks + ([] : List (Str × Value)).length } := by
    refine codeAny_compLoop_list (CompInv g s₂.heap.objs.size I H2.objs.size n St J s₂.drawn s₂.os s₂.toks) ?_ (n + 1)
      ⟨[], _, news₀, s₂.gens, h₁, _, 0, rfl, hst₁, hj, (fun p hp => ⟨(below _ (Heap.lt_size (hN p hp).1)).2, hIas p hp⟩), Nat.zero_le _, rfl, Nat.le_refl _, F₁, N₁⟩
    rintro k s' ⟨ys, m₁, news₁, gs, h, tk, nn, rfl, hst', hj', hne', hle, rfl, htk, F', N'⟩
    have kept : ∀ {h h' : Heap}, (∀ b o, b ∉ wr → h.get? b = some o → h'.get? b = some o) → ∀ b o, b ≠ I → h.get? b = some o → h'.get? b = some o :=
      fun hk b o hb e => hk b o (fun q => hb (hwr b q)) e
    have frk : ∀ {h h' : Heap} {m : Str → Option Value}, Fr g H2.objs.size h m → (∀ b o, b ≠ I → h.get? b = some o → h'.get? b = some o) → Fr g H2.objs.size h' m :=
      fun F hk => ⟨F.ns.at' fun o e => hk _ o (Ne.symm hIC) e, fun b o e => hk b o (fun q => by rw [q, hgI] at e; cases e) (F.keep b o e), F.above⟩
    have nwk : ∀ {h h' : Heap} {nw : List (Addr × Obj)}, News g H2.objs.size h nw → (∀ p ∈ nw, p.1 ≠ I) → (∀ b o, b ≠ I → h.get? b = some o → h'.get? b = some o) → News g H2.objs.size h' nw :=
      fun N q hk p hp => ⟨hk _ _ (q p hp) (N p hp).1, (N p hp).2⟩
    have hDn : ∀ {nn : Nat}, ∀ p ∈ (s₂.heap.objs.size, listOf ys.toArray nn) :: news₁, p.1 ≠ I := fun p hp => by
      rcases List.mem_cons.mp hp with rfl | hp
      · exact hID
      · exact (hne' p hp).2
    by_cases hlt : ys.length < n
    · refine wpAny_with_toks (n := tk) (Nat.le_refl _) (W.item ys.length _ _ _ hlt hst' fun v h₂ tk₂ hv hst₂ hk htk₂ => ?_)
      replace htk₂ : tk ≤ tk₂ := htk₂
      have hk' := kept hk
      refine wpAny_assign_Name (wpAny_storeName_local (lookup_relabel_local hx) (frk F' hk').ns (fun h₃ hns hsb => ?_) (by simp [compEnvC, relabel, hkind]))
      have F₃ := (frk F' hk').set hns hsb
      have N₃ := (nwk N' hDn hk').set hsb
      have hst₃ : St (ys.length + 1) h₃ := W.frame _ _ _ hst₂ fun b hb o e => hsb.extBut b o (fun q => by
        rcases hfp b hb with r | r
        · exact hIC (r.symm.trans q)
        · obtain ⟨_, o', ho'⟩ := r
          exact (below _ (Heap.lt_size ho')).1 q) e
      obtain ⟨oI, hoI⟩ := hIo _ _ hst₃
      have N₄ : News g H2.objs.size h₃ ((s₂.heap.objs.size, listOf ys.toArray nn) :: (I, oI) :: news₁) := fun p hp => by
        rcases List.mem_cons.mp hp with rfl | hp
        · exact N₃ _ (.head _)
        rcases List.mem_cons.mp hp with rfl | hp
        · exact ⟨hoI, hIC, hgI⟩
        · exact N₃ p (.tail _ hp)
      refine wpAny_mono (E := fun _ s' => _ ≤ s'.toks ∧ False) (wpAny_toks_of (Nat.le_refl _) (turn ys.length v ys _ H2.objs.size oI m₁ news₁ gs h₃ _ nn g hlt hv hj' rfl (fresh _ (Nat.le_refl _)) (fresh _ hCle) hne' rfl (by dsimp only; omega) F₃ N₄)) (fun y s₄ h₄ => ?_) fun _ _ y => y.2.elim
      obtain ⟨htk₄, m', news', gs', h', tk', rfl, F₅, N₅, hne₅, hj₅⟩ := h₄
      have hD5 := (N₅ _ (.head _)).1
      refine wpAny_list_append_plain (items := ys.toArray) ⟨nn, hD5⟩ (fun h₆ hpl hsb6 => ?_) (by rw [sizeLine_eq]; simp; omega)
      obtain ⟨nn6, e6⟩ := hpl
      have hDne : s₂.heap.objs.size ≠ H2.objs.size := hDC
      have F₆ : Fr g H2.objs.size h₆ m' := F₅.change hsb6 (N₅ _ (.head _)).2.1 (N₅ _ (.head _)).2.2
      refine ⟨n + 1 - (ys ++ [y]).length, by simp; omega, ys ++ [y], m', news', gs', h₆, _, nn6, rfl, ?_, ?_, hne₅, by simp; omega, rfl, by dsimp only at htk₄ ⊢; omega, F₆, ?_⟩
      · rw [List.length_append, List.length_singleton]
        refine W.frame _ _ _ hst₃ fun b hb o e => ?_
        rcases hfp b hb with r | ⟨r, o', ho'⟩
        · subst r
          rw [hoI] at e
          cases e
          exact hsb6.extBut _ _ hID.symm (N₅ _ (.tail _ (.head _))).1
        · by_cases hbI : b = I
          · subst hbI
            rw [hoI] at e
            cases e
            exact hsb6.extBut _ _ hID.symm (N₅ _ (.tail _ (.head _))).1
          have hb' : g.get? b = some o' := by rw [← hg]; exact hideAll_get _ ho' (by simp [hbI, r])
          have e2 := F₃.keep b o' hb'
          rw [e] at e2
          cases e2
          exact F₆.keep b o hb'
      · rw [List.length_append, List.length_singleton]
        exact hj₅
      · intro p hp
        rcases List.mem_cons.mp hp with rfl | hp
        · exact ⟨by rw [e6]; simp, hDC, (N₅ _ (.head _)).2.2⟩
        · have q := N₅ p (.tail _ (.tail _ hp))
          exact ⟨hsb6.extBut _ _ (hne₅ p hp).1 q.1, q.2⟩
    · have hin : ys.length = n := by omega
      refine W.done _ _ _ (hin ▸ hst') fun h₂ tk₂ hk => ?_
      have hk' := kept hk
      rw [hin] at hj'
      exact done _ _ ys m₁ news₁ gs h₂ tk₂ nn g hj' hin rfl (fresh _ (Nat.le_refl _)) (fresh _ hCle) hDC (fun p hp => (hne' p hp).1) (frk F' hk') (nwk N' hDn hk')
  exact codeAny_compStart_list loop (W.self 0 _ _ _ hst₁ loop)

/-- the facts of a block's base over the heap at its start -/
structure BlockBase (g h : Heap) (as : List Addr) : Prop where
  keep : ∀ b o, b ∉ as → h.get? b = some o → g.get? b = some o
  hid : ∀ b, b ∈ as → g.get? b = none
  old : ∀ b o, g.get? b = some o → h.get? b = some o
theorem comp_pushT {elt iter : Expr} {x : Str} {px : Pos} {scope : Scope} {cl : List (Str × Addr)} {pos : Pos} {s : Shared} {oIt : Obj} {fp wr as : List Addr} {n : Nat} {P : Nat → Value → Prop} {St : Nat → Heap → Prop} {RR : Value → Addr → Result → Shared → Prop} {news₀ : List (Addr × Obj)}
    (J : Nat → List Value → List (Addr × Obj) → Array GenState → Prop)
    (W : Walks prog w A s.heap.objs.size fp wr n P St) (hIf : s.heap.objs.size ∈ fp) (hn : n ≤ 1000) (hst : St 0 (s.heap.push oIt)) (hwr : ∀ b ∈ wr, b = s.heap.objs.size) (hfp : ∀ b ∈ fp, b = s.heap.objs.size ∨ (b ∉ as ∧ ∃ o, s.heap.get? b = some o)) (hIo : ∀ i h, St i h → ∃ o, h.get? s.heap.objs.size = some o)
    (has : ∀ b ∈ as, ∃ o, s.heap.get? b = some o) (hN : ∀ p ∈ news₀, s.heap.get? p.1 = some p.2 ∧ p.1 ∈ as) (hj : J 0 [] news₀ s.gens) (hfr : oIt.isFreed = false)
    (hcell : ∀ y ∈ scope.names, y.2 ≠ .cell) (hkind : scope.kind = .function) (hx : scope.names.lookup x = some .local)
    (turn : ∀ (i : Nat) (v : Value) (ys : List Value) (D C I : Addr) (oI : Obj) (m₁ : Str → Option Value) (news₁ : List (Addr × Obj)) (gs : Array GenState) (h : Heap) (tk nn : Nat) (g : Heap), i < n → P i v → J i ys news₁ gs → BlockBase g s.heap as → s.heap.get? D = none → s.heap.get? C = none → (∀ p ∈ news₁, p.1 ≠ D ∧ p.1 ≠ I) → ys.length = i → @LE.le Nat _ s.toks tk →
      Fr g C h (fun y => if y = x then some v else m₁ y) → News g C h ((D, listOf ys.toArray nn) :: (I, oI) :: news₁) →
      wpAny (model prog w) A (eval elt (compEnvC scope cl C env)) (EltEnd g C D I (listOf ys.toArray nn) oI s.drawn s.os fun y news' gs' => J (i + 1) (ys ++ [y]) news' gs') (fun _ _ => False) ⟨h, gs, s.drawn, tk, s.os⟩)
    (done : ∀ (D C : Addr) (ys : List Value) (m₁ : Str → Option Value) (news₁ : List (Addr × Obj)) (gs : Array GenState) (h : Heap) (tk nn : Nat) (g : Heap), J n ys news₁ gs → ys.length = n → BlockBase g s.heap as → s.heap.get? D = none → s.heap.get? C = none → D ≠ C → (∀ p ∈ news₁, p.1 ≠ D) → Fr g C h m₁ → News g C h ((D, listOf ys.toArray nn) :: news₁) → RR (.ref D) C (.ok .next) ⟨h, gs, s.drawn, tk, s.os⟩) :
    wpAny (model prog w) A (newList []) (fun acc s₃ => wpAny (model prog w) A (newFunctionEnv scope env.globals cl [] env.qual none .none (some env)) (fun cenv s₄ =>
      codeAny (model prog w) A (.compStart (.ListComp elt [⟨.Name x px, iter, [], 0⟩] scope pos) 0 (.ref s.heap.objs.size) acc { cenv with scope := relabel scope env }) (RR acc cenv.locals) s₄) E s₃) E { s with heap := s.heap.push oIt } := by
  have hIn : ∀ b o, s.heap.get? b = some o → b ≠ s.heap.objs.size := fun b o e => Nat.ne_of_lt (Heap.lt_size e)
  have base : ∀ g, g = hideAll (s.heap.push oIt) (s.heap.objs.size :: as) → BlockBase g s.heap as := by
    rintro g rfl
    refine ⟨fun b o hb e => hideAll_get _ (Heap.get?_push_of_some _ e) (by simp [hIn b o e, hb]), fun b hb => hideAll_none _ (.tail _ hb), fun b o e => ?_⟩
    have e1 := of_hideAll _ e
    by_cases hb : b = s.heap.objs.size
    · subst hb
      rw [hideAll_none _ (.head _)] at e; cases e
    · rw [Heap.get?_push_ne _ _ _ hb] at e1; exact e1
  have dn : ∀ {a : Addr}, (s.heap.push oIt).get? a = none → s.heap.get? a = none := fun {a} e => by
    cases q : s.heap.get? a with
    | none => rfl
    | some o => rw [Heap.get?_push_of_some _ q] at e; cases e
  refine comp_coreT (as := as) (news₀ := news₀) J W hIf hn hst hwr (fun b hb => (hfp b hb).imp id fun q => ⟨q.1, let ⟨o, e⟩ := q.2; ⟨o, Heap.get?_push_of_some _ e⟩⟩) hIo (fun p hp => ⟨Heap.get?_push_of_some _ (hN p hp).1, (hN p hp).2⟩) (fun p hp => hIn _ _ (hN p hp).1) hj hcell hkind hx ?_ ?_
  · intro i v ys D C oI m₁ news₁ gs h tk nn g hi hv hj hg hD hC hne hl ht F N
    exact turn i v ys D C _ oI m₁ news₁ gs h tk nn g hi hv hj (base g hg) (dn hD) (dn hC) hne hl ht F N
  · intro D C ys m₁ news₁ gs h tk nn g hj hl hg hD hC hDC hne F N
    exact done D C ys m₁ news₁ gs h tk nn g hj hl (base g hg) (dn hD) (dn hC) hDC hne F N
theorem comp_push {elt iter : Expr} {x : Str} {px : Pos} {scope : Scope} {cl : List (Str × Addr)} {pos : Pos} {s : Shared} {oIt : Obj} {fp wr as : List Addr} {n : Nat} {P : Nat → Value → Prop} {St : Nat → Heap → Prop} {RR : Value → Addr → Result → Shared → Prop} {news₀ : List (Addr × Obj)}
    (J : Nat → List Value → List (Addr × Obj) → Array GenState → Prop)
    (W : Walks prog w A s.heap.objs.size fp wr n P St) (hIf : s.heap.objs.size ∈ fp) (hn : n ≤ 1000) (hst : St 0 (s.heap.push oIt)) (hwr : ∀ b ∈ wr, b = s.heap.objs.size) (hfp : ∀ b ∈ fp, b = s.heap.objs.size ∨ (b ∉ as ∧ ∃ o, s.heap.get? b = some o)) (hIo : ∀ i h, St i h → ∃ o, h.get? s.heap.objs.size = some o)
    (has : ∀ b ∈ as, ∃ o, s.heap.get? b = some o) (hN : ∀ p ∈ news₀, s.heap.get? p.1 = some p.2 ∧ p.1 ∈ as) (hj : J 0 [] news₀ s.gens) (hfr : oIt.isFreed = false)
    (hcell : ∀ y ∈ scope.names, y.2 ≠ .cell) (hkind : scope.kind = .function) (hx : scope.names.lookup x = some .local)
    (turn : ∀ (i : Nat) (v : Value) (ys : List Value) (D C I : Addr) (oI : Obj) (m₁ : Str → Option Value) (news₁ : List (Addr × Obj)) (gs : Array GenState) (h : Heap) (tk nn : Nat) (g : Heap), i < n → P i v → J i ys news₁ gs → BlockBase g s.heap as → s.heap.get? D = none → s.heap.get? C = none → (∀ p ∈ news₁, p.1 ≠ D ∧ p.1 ≠ I) → ys.length = i →
      Fr g C h (fun y => if y = x then some v else m₁ y) → News g C h ((D, listOf ys.toArray nn) :: (I, oI) :: news₁) →
      wpAny (model prog w) A (eval elt (compEnvC scope cl C env)) (EltEnd g C D I (listOf ys.toArray nn) oI s.drawn s.os fun y news' gs' => J (i + 1) (ys ++ [y]) news' gs') (fun _ _ => False) ⟨h, gs, s.drawn, tk, s.os⟩)
    (done : ∀ (D C : Addr) (ys : List Value) (m₁ : Str → Option Value) (news₁ : List (Addr × Obj)) (gs : Array GenState) (h : Heap) (tk nn : Nat) (g : Heap), J n ys news₁ gs → ys.length = n → BlockBase g s.heap as → s.heap.get? D = none → s.heap.get? C = none → D ≠ C → (∀ p ∈ news₁, p.1 ≠ D) → Fr g C h m₁ → News g C h ((D, listOf ys.toArray nn) :: news₁) → RR (.ref D) C (.ok .next) ⟨h, gs, s.drawn, tk, s.os⟩) :
    wpAny (model prog w) A (newList []) (fun acc s₃ => wpAny (model prog w) A (newFunctionEnv scope env.globals cl [] env.qual none .none (some env)) (fun cenv s₄ =>
      codeAny (model prog w) A (.compStart (.ListComp elt [⟨.Name x px, iter, [], 0⟩] scope pos) 0 (.ref s.heap.objs.size) acc { cenv with scope := relabel scope env }) (RR acc cenv.locals) s₄) E s₃) E { s with heap := s.heap.push oIt } :=
  comp_pushT J W hIf hn hst hwr hfp hIo has hN hj hfr hcell hkind hx (fun i v ys D C I oI m₁ news₁ gs h tk nn g h1 h2 h3 h4 h5 h6 h7 h8 _ F N => turn i v ys D C I oI m₁ news₁ gs h tk nn g h1 h2 h3 h4 h5 h6 h7 h8 F N) done
/-- a block over range(n) -/
theorem comp_range {elt iter : Expr} {x : Str} {px : Pos} {scope : Scope} {cl : List (Str × Addr)} {pos : Pos} {s : Shared} {as : List Addr} {r : Addr} {n : Nat} {t u v : Tok} {RR : Value → Addr → Result → Shared → Prop} {news₀ : List (Addr × Obj)}
    (J : Nat → List Value → List (Addr × Obj) → Array GenState → Prop) (hh : A.handled = none) (hr : IsRange s.heap r 0 n 1 t u v) (hn : n < 1000)
    (has : ∀ b ∈ as, ∃ o, s.heap.get? b = some o) (hN : ∀ p ∈ news₀, s.heap.get? p.1 = some p.2 ∧ p.1 ∈ as) (hj : J 0 [] news₀ s.gens)
    (hcell : ∀ y ∈ scope.names, y.2 ≠ .cell) (hkind : scope.kind = .function) (hx : scope.names.lookup x = some .local)
    (turn : ∀ (i : Nat) (t : Tok) (ys : List Value) (D C I : Addr) (oI : Obj) (m₁ : Str → Option Value) (news₁ : List (Addr × Obj)) (gs : Array GenState) (h : Heap) (tk nn : Nat) (g : Heap), i < n → J i ys news₁ gs → BlockBase g s.heap as → s.heap.get? D = none → s.heap.get? C = none → (∀ p ∈ news₁, p.1 ≠ D ∧ p.1 ≠ I) → ys.length = i →
      Fr g C h (fun y => if y = x then some (.int (i : Nat) t) else m₁ y) → News g C h ((D, listOf ys.toArray nn) :: (I, oI) :: news₁) →
      wpAny (model prog w) A (eval elt (compEnvC scope cl C env)) (EltEnd g C D I (listOf ys.toArray nn) oI s.drawn s.os fun y news' gs' => J (i + 1) (ys ++ [y]) news' gs') (fun _ _ => False) ⟨h, gs, s.drawn, tk, s.os⟩)
    (done : ∀ (D C : Addr) (ys : List Value) (m₁ : Str → Option Value) (news₁ : List (Addr × Obj)) (gs : Array GenState) (h : Heap) (tk nn : Nat) (g : Heap), J n ys news₁ gs → ys.length = n → BlockBase g s.heap as → s.heap.get? D = none → s.heap.get? C = none → D ≠ C → (∀ p ∈ news₁, p.1 ≠ D) → Fr g C h m₁ → News g C h ((D, listOf ys.toArray nn) :: news₁) → RR (.ref D) C (.ok .next) ⟨h, gs, s.drawn, tk, s.os⟩) :
    wpAny (model prog w) A (pyIter (.ref r)) (fun it s₂ => wpAny (model prog w) A (newList []) (fun acc s₃ => wpAny (model prog w) A (newFunctionEnv scope env.globals cl [] env.qual none .none (some env)) (fun cenv s₄ =>
      codeAny (model prog w) A (.compStart (.ListComp elt [⟨.Name x px, iter, [], 0⟩] scope pos) 0 it acc { cenv with scope := relabel scope env }) (RR acc cenv.locals) s₄) E s₃) E s₂) E s := by
  have hz : Builtin.Range.rangeSize 0 n 1 = n := by unfold Builtin.Range.rangeSize; rw [if_pos (by decide)]; split <;> omega
  refine wpAny_pyIter_range hr (by simp [Builtin.Range.small, Builtin.Range.rangeFitsLong]; rw [hz]; omega) ?_
  refine comp_push J (Walks.range hh s.heap.objs.size 0 1 n) (.head _) (by omega) ?_ (fun b hb => List.mem_singleton.mp hb) (fun b hb => .inl (List.mem_singleton.mp hb)) (fun i h st => ⟨_, st⟩) has hN hj rfl hcell hkind hx ?_ done
  · show (s.heap.push _).get? _ = _
    rw [Heap.get?_push_size _ rfl, hz]
    simp [rawInt]
  · rintro i v' ys D C I oI m₁ news₁ gs h tk nn g hi ⟨t, rfl⟩ hj hB hD hC hne hl F N
    have e : (0 : Int) + (i : Int) * 1 = i := by omega
    rw [e] at F
    exact turn i t ys D C I oI m₁ news₁ gs h tk nn g hi hj hB hD hC hne hl F N
/-- a block over a list that the elements leave as it is -/
theorem comp_list {elt iter : Expr} {x : Str} {px : Pos} {scope : Scope} {cl : List (Str × Addr)} {pos : Pos} {s : Shared} {as : List Addr} {l : Addr} {items : Array Value} {RR : Value → Addr → Result → Shared → Prop} {news₀ : List (Addr × Obj)}
    (J : Nat → List Value → List (Addr × Obj) → Array GenState → Prop) (hh : A.handled = none) (hl : s.heap.IsList l items) (hn : items.size ≤ 1000) (hla : l ∉ as)
    (has : ∀ b ∈ as, ∃ o, s.heap.get? b = some o) (hN : ∀ p ∈ news₀, s.heap.get? p.1 = some p.2 ∧ p.1 ∈ as) (hj : J 0 [] news₀ s.gens)
    (hcell : ∀ y ∈ scope.names, y.2 ≠ .cell) (hkind : scope.kind = .function) (hx : scope.names.lookup x = some .local)
    (turn : ∀ (i : Nat) (v : Value) (ys : List Value) (D C I : Addr) (oI : Obj) (m₁ : Str → Option Value) (news₁ : List (Addr × Obj)) (gs : Array GenState) (h : Heap) (tk nn : Nat) (g : Heap), items[i]? = some v → J i ys news₁ gs → BlockBase g s.heap as → s.heap.get? D = none → s.heap.get? C = none → (∀ p ∈ news₁, p.1 ≠ D ∧ p.1 ≠ I) → ys.length = i →
      Fr g C h (fun y => if y = x then some v else m₁ y) → News g C h ((D, listOf ys.toArray nn) :: (I, oI) :: news₁) →
      wpAny (model prog w) A (eval elt (compEnvC scope cl C env)) (EltEnd g C D I (listOf ys.toArray nn) oI s.drawn s.os fun y news' gs' => J (i + 1) (ys ++ [y]) news' gs') (fun _ _ => False) ⟨h, gs, s.drawn, tk, s.os⟩)
    (done : ∀ (D C : Addr) (ys : List Value) (m₁ : Str → Option Value) (news₁ : List (Addr × Obj)) (gs : Array GenState) (h : Heap) (tk nn : Nat) (g : Heap), J items.size ys news₁ gs → ys.length = items.size → BlockBase g s.heap as → s.heap.get? D = none → s.heap.get? C = none → D ≠ C → (∀ p ∈ news₁, p.1 ≠ D) → Fr g C h m₁ → News g C h ((D, listOf ys.toArray nn) :: news₁) → RR (.ref D) C (.ok .next) ⟨h, gs, s.drawn, tk, s.os⟩) :
    wpAny (model prog w) A (pyIter (.ref l)) (fun it s₂ => wpAny (model prog w) A (newList []) (fun acc s₃ => wpAny (model prog w) A (newFunctionEnv scope env.globals cl [] env.qual none .none (some env)) (fun cenv s₄ =>
      codeAny (model prog w) A (.compStart (.ListComp elt [⟨.Name x px, iter, [], 0⟩] scope pos) 0 it acc { cenv with scope := relabel scope env }) (RR acc cenv.locals) s₄) E s₃) E s₂) E s := by
  refine wpAny_pyIter_list hl ?_
  have hls : l ≠ s.heap.objs.size := let ⟨_, ho, _⟩ := hl; Nat.ne_of_lt (Heap.lt_size ho)
  refine comp_push J (Walks.list hh s.heap.objs.size l hls items) (.head _) (by omega) ?_ (fun b hb => List.mem_singleton.mp hb) (fun b hb => ?_) (fun i h st => let ⟨o, ho, _⟩ := st.1; ⟨o, ho⟩) has hN hj rfl hcell hkind hx ?_ done
  · exact ⟨⟨_, Heap.get?_push_size _ rfl, rfl, rfl⟩, let ⟨o, ho, r⟩ := hl; ⟨o, Heap.get?_push_of_some _ ho, r⟩⟩
  · rcases List.mem_cons.mp hb with r | r
    · exact .inl r
    · rw [List.mem_singleton.mp r]
      exact .inr ⟨hla, let ⟨o, ho, _⟩ := hl; ⟨o, ho⟩⟩
  · intro i v' ys D C I oI m₁ news₁ gs h tk nn g hi hP hj hB hD hC hne hl F N
    exact turn i v' ys D C I oI m₁ news₁ gs h tk nn g hP hj hB hD hC hne hl F N
/-- a name of the block's own -/
theorem nameB_local {s : Shared} {M : Model} {g : Heap} {C : Addr} {m : Str → Option Value} {x : Str} {pos : Pos} {v : Value} {Q : Value → Shared → Prop} {scope : Scope} {cl : List (Str × Addr)} (F : Fr g C s.heap m) (hv : m x = some v) (h : Q v s)
    (hk : (relabel scope env).kind = .function := by rfl) (hx : (compEnvC scope cl C env).kindOf x = some .local := by rfl) (hd : (x == ("__debug__" : Str)) = false := by decide) :
    wpAny M A (eval (.Name x pos) (compEnvC scope cl C env)) Q E s := wpAny_Name (wpAny_loadName_local hk hx F.ns hv h) hd
/-- a name that the block takes from a cell of the frame around it -/
theorem nameB_cell {s : Shared} {M : Model} {C c : Addr} {x : Str} {pos : Pos} {v : Value} {o : Obj} {Q : Value → Shared → Prop} {scope : Scope} {cl : List (Str × Addr)} (hc : cl.lookup x = some c) (ho : s.heap.get? c = some o) (hd : o.data = .cell (some v)) (h : Q v s)
    (hk : (relabel scope env).kind = .function := by rfl) (hx : (compEnvC scope cl C env).kindOf x = some .cell := by rfl) (hb : (x == ("__debug__" : Str)) = false := by decide) :
    wpAny M A (eval (.Name x pos) (compEnvC scope cl C env)) Q E s := wpAny_Name (wpAny_loadName_cell hk hx hc ⟨o, ho, hd⟩ h) hb
theorem listComp_step {elt iter : Expr} {x : Str} {px : Pos} {scope : Scope} {cl : List (Str × Addr)} {pos : Pos} {s : Shared} {M : Model} {Q : Value → Shared → Prop} (hclos : closureFor scope env = pure cl) (hkind : scope.kind = .function) (hnames : ∀ y ∈ scope.names, y.2 = .local → scope.names.lookup y.1 = some .local)
    (h : wpAny M A (eval iter env) (fun xv s₁ => wpAny M A (pyIter xv) (fun it s₂ => wpAny M A (newList []) (fun acc s₃ => wpAny M A (newFunctionEnv scope env.globals cl [] env.qual none .none (some env)) (fun cenv s₄ =>
      codeAny M A (.compStart (.ListComp elt [⟨.Name x px, iter, [], 0⟩] scope pos) 0 it acc { cenv with scope := relabel scope env }) (compPost M A E none Q acc cenv.locals) s₄) E s₃) E s₂) E s₁) E s)
    (hs : ∀ x, foldedSetIterable iter env x = pure x := by intro _; rfl) :
    wpAny M A (eval (.ListComp elt [⟨.Name x px, iter, [], 0⟩] scope pos) env) Q E s := by
  rw [eval_ListComp]
  exact wpAny_comprehension_free (use := none) rfl hs hclos hkind hnames h
theorem listComp_assign {elt iter : Expr} {x y : Str} {px py : Pos} {scope : Scope} {cl : List (Str × Addr)} {pos spos : Pos} {s : Shared} {M : Model} {Q : Flow → Shared → Prop}
    (hsw : swapsWith (.ListComp elt [⟨.Name x px, iter, [], 0⟩] scope pos) (some (.Name y py)) spos.line env = pure true)
    (hclos : closureFor scope env = pure cl) (hkind : scope.kind = .function) (hnames : ∀ y ∈ scope.names, y.2 = .local → scope.names.lookup y.1 = some .local)
    (h : wpAny M A (eval iter env) (fun xv s₁ => wpAny M A (pyIter xv) (fun it s₂ => wpAny M A (newList []) (fun acc s₃ => wpAny M A (newFunctionEnv scope env.globals cl [] env.qual none .none (some env)) (fun cenv s₄ =>
      codeAny M A (.compStart (.ListComp elt [⟨.Name x px, iter, [], 0⟩] scope pos) 0 it acc { cenv with scope := relabel scope env }) (compPost M A E (some (assign (.Name y py) env)) (fun _ s' => Q .next s') acc cenv.locals) s₄) E s₃) E s₂) E s₁) E s)
    (hs : ∀ x, foldedSetIterable iter env x = pure x := by intro _; rfl) :
    wpAny M A (exec (.Assign [.Name y py] (.ListComp elt [⟨.Name x px, iter, [], 0⟩] scope pos) spos) env) Q E s := by
  rw [exec_Assign_Name_used _ _ _ _ hsw]
  refine wpAny_bind (wpAny_standAt (wpAny_bind ?_))
  show wpAny _ A (do let _ ← comprehension (.ListComp elt [⟨.Name x px, iter, [], 0⟩] scope pos) scope env _ (newList []) false (eval iter env) (some (assign (.Name y py) env))) _ _ s
  exact wpAny_bind (wpAny_mono (wpAny_comprehension_free (use := some (assign (.Name y py) env)) (Q := fun _ s' => Q .next s') rfl hs hclos hkind hnames h) (fun _ _ q => wpAny_pure (wpAny_pure q)) fun _ _ e => e)
theorem BlockBase.from {g₂ h g : Heap} {as : List Addr} {L : Addr} {m : Str → Option Value} (B : BlockBase g₂ h as) (F : Fr g L h m) (hg : ∀ b ∈ as, g.get? b = none) : ∀ b o, g.get? b = some o → g₂.get? b = some o :=
  fun b o e => B.keep b o (fun q => by rw [hg b q] at e; cases e) (F.keep b o e)
theorem comp_out {g₀ h g h' h'' : Heap} {L C : Addr} {m m₁ : Str → Option Value} {news newsC : List (Addr × Obj)} {as : List Addr} (F₀ : Fr g₀ L h m) (N₀ : News g₀ L h news) (B : BlockBase g h as) (hC : h.get? C = none) (hL : L ∉ as) (hgas : ∀ b ∈ as, g₀.get? b = none) (F : Fr g C h' m₁) (N : News g C h' newsC) (hs : Heap.SameBut C h' h'') (hn : ∀ p ∈ news, p.1 ∉ as) :
    Fr g₀ L h'' m ∧ News g₀ L h'' news ∧ News g₀ L h'' newsC ∧ (∀ b o, b ∉ as → h.get? b = some o → h''.get? b = some o) := by
  have k : ∀ b o, b ∉ as → h.get? b = some o → h''.get? b = some o := fun b o hb e => hs.extBut b o (by rintro rfl; rw [hC] at e; cases e) (F.keep b o (B.keep b o hb e))
  refine ⟨⟨F₀.ns.at' fun o e => k _ o hL e, fun b o e => k b o (fun q => by rw [hgas b q] at e; cases e) (F₀.keep b o e), F₀.above⟩, fun p hp => ⟨k _ _ (hn p hp) (N₀ p hp).1, (N₀ p hp).2⟩, fun p hp => ?_, k⟩
  have q := N p hp
  refine ⟨hs.extBut _ _ q.2.1 q.1, ?_, ?_⟩
  · intro e
    obtain ⟨o, _, _, ho, _⟩ := F₀.ns
    have := B.keep _ o hL ho
    rw [← e, q.2.2] at this; cases this
  · cases e : g₀.get? p.1 with
    | none => rfl
    | some o =>
      by_cases ha : p.1 ∈ as
      · rw [hgas _ ha] at e; cases e
      · have := B.keep _ o ha (F₀.keep _ o e)
        rw [q.2.2] at this; cases this
/-- a block that leaves what it saw as it was -/
theorem comp_same {g₀ h g h' h'' : Heap} {L C : Addr} {m m₁ : Str → Option Value} {newsC : List (Addr × Obj)} {as : List Addr} (F₀ : Fr g₀ L h m) (B : BlockBase g h as) (hC : h.get? C = none) (hgas : ∀ b ∈ as, g₀.get? b = none) (hL : L ∉ as) (F : Fr g C h' m₁) (N : News g C h' newsC) (hs : Heap.SameBut C h' h'')
    (hk : ∀ b ∈ as, ∃ o, h.get? b = some o ∧ (b, o) ∈ newsC) : (∀ b o, h.get? b = some o → h''.get? b = some o) ∧ News g₀ L h'' newsC := by
  refine ⟨fun b o e => ?_, (comp_out (news := []) F₀ News.nil B hC hL hgas F N hs (fun _ hp => nomatch hp)).2.2.1⟩
  by_cases hb : b ∈ as
  · obtain ⟨o', e', hm⟩ := hk b hb
    rw [e] at e'; cases e'
    have q := N _ hm
    exact hs.extBut _ _ q.2.1 q.1
  · exact hs.extBut b o (by rintro rfl; rw [hC] at e; cases e) (F.keep b o (B.keep b o hb e))
end
structure CompFacts (g h : Heap) (L : Addr) (R : List (Addr × Obj)) : Prop where
  has : ∀ b ∈ R.map (·.1), ∃ o, h.get? b = some o
  old : ∀ p ∈ R, h.get? p.1 = some p.2 ∧ p.1 ∈ R.map (·.1)
  new : ∀ b ∈ R.map (·.1), g.get? b = none
  loc : L ∉ R.map (·.1)
  obj : ∀ b ∈ R.map (·.1), ∃ o, h.get? b = some o ∧ (b, o) ∈ R
theorem comp_facts {g h : Heap} {L : Addr} {R : List (Addr × Obj)} (N : News g L h R) : CompFacts g h L R := by
  refine ⟨fun b hb => ?_, fun p hp => ⟨(N p hp).1, List.mem_map_of_mem hp⟩, fun b hb => ?_, fun hb => ?_, fun b hb => ?_⟩
  · obtain ⟨p, hp, rfl⟩ := List.mem_map.mp hb
    exact ⟨_, (N p hp).1⟩
  · obtain ⟨p, hp, rfl⟩ := List.mem_map.mp hb
    exact (N p hp).2.2
  · obtain ⟨p, hp, e⟩ := List.mem_map.mp hb
    exact (N p hp).2.1 e
  · obtain ⟨p, hp, rfl⟩ := List.mem_map.mp hb
    exact ⟨_, (N p hp).1, hp⟩
end Mine
end

section
open PySem PySem.W PyProof.Rows PySem.Calls
namespace Mine

section
variable {prog : Program} {w : World} {A : Around} {E : Value → Shared → Prop} {s : Shared} {env : Env} {h₀ : Heap} {target : Expr} {body : List Stmt} {Q : Flow → Shared → Prop}
  {m : Str → Option Value} {news : List (Addr × Obj)}

/-- for .. in a tuple that lies in the ledger or below -/
theorem for_tuple {l : Addr} {items : Array Value} (J : Nat → (Str → Option Value) → List (Addr × Obj) → Array GenState → Prop) (hh : A.handled = none)
    (F : Fr h₀ env.locals s.heap m) (N : News h₀ env.locals s.heap news) (hl : s.heap.IsTuple l items) (hj : J 0 m news s.gens)
    (turn : ∀ i v I oI m₁ news₁ gs h tk, items[i]? = some v → J i m₁ news₁ gs → (∀ p ∈ news, p.1 < I) → (∀ p ∈ news₁, p.1 ≠ I) → h.IsTuple l items → Fr h₀ env.locals h m₁ → News h₀ env.locals h ((I, oI) :: news₁) →
      wpAny (model prog w) A (assign target env v) (fun _ s₂ => wpAny (model prog w) A (execs body env) (TurnEnd h₀ env.locals I oI [l] h s.drawn s.os (J (i + 1)) Q) (fun _ _ => False) s₂) (fun _ _ => False) ⟨h, gs, s.drawn, tk, s.os⟩)
    (done : ∀ m₁ news₁ gs h tk, J items.size m₁ news₁ gs → Fr h₀ env.locals h m₁ → News h₀ env.locals h news₁ → Q .next ⟨h, gs, s.drawn, tk, s.os⟩) :
    wpAny (model prog w) A (pyIter (.ref l)) (fun it s₂ => codeAny (model prog w) A (.forLoop target it body [] env) (fun r s' => match r with | .ok f => Q f s' | .error e => cameBackBy (model prog w) A env E e s') s₂) E s := by
  refine wpAny_pyIter_tuple hl ?_
  obtain ⟨hL, hI⟩ := fr_size F
  have lt : ∀ p ∈ news, p.1 < s.heap.objs.size := fun p hp => Heap.lt_size (N p hp).1
  have hls : l ≠ s.heap.objs.size := let ⟨_, ho, _⟩ := hl; Nat.ne_of_lt (Heap.lt_size ho)
  refine loop_coreG (kp := [l]) (fun i m n g _ => J i m n g) (Walks.tuple hh s.heap.objs.size l hls items) (fun i v s Q E st q => letGo_tupleiter st.1 q) (.head _) (fun b hb => ?_) (fun b hb => List.mem_singleton.mp hb) hL hI (F.push _) (news_push N) (news_ne_size N)
    ⟨⟨_, Heap.get?_push_size _ rfl, rfl, rfl⟩, let ⟨o, ho, r⟩ := hl; ⟨o, Heap.get?_push_of_some _ ho, r⟩⟩ (fun i h st => let ⟨o, ho, _⟩ := st.1; ⟨o, ho⟩) (fun _ _ _ _ _ _ _ h => h) hj
    (fun i v oI m₁ news₁ gs h tk _ hP hj₁ hne st F₁ N₁ => turn i v _ oI m₁ news₁ gs h tk hP hj₁ lt hne st.2 F₁ N₁) done
  rcases List.mem_cons.mp hb with r | r
  · exact .inl r
  · exact .inr r
end
section
variable {prog : Program} {w : World} {A : Around} {E : Value → Shared → Prop} {env : Env}
/-- a block over a tuple that the elements leave as it is -/
theorem comp_tuple {elt iter : Expr} {x : Str} {px : Pos} {scope : Scope} {cl : List (Str × Addr)} {pos : Pos} {s : Shared} {as : List Addr} {l : Addr} {items : Array Value} {RR : Value → Addr → Result → Shared → Prop} {news₀ : List (Addr × Obj)}
    (J : Nat → List Value → List (Addr × Obj) → Array GenState → Prop) (hh : A.handled = none) (hl : s.heap.IsTuple l items) (hn : items.size ≤ 1000) (hla : l ∉ as)
    (has : ∀ b ∈ as, ∃ o, s.heap.get? b = some o) (hN : ∀ p ∈ news₀, s.heap.get? p.1 = some p.2 ∧ p.1 ∈ as) (hj : J 0 [] news₀ s.gens)
    (hcell : ∀ y ∈ scope.names, y.2 ≠ .cell) (hkind : scope.kind = .function) (hx : scope.names.lookup x = some .local)
    (turn : ∀ (i : Nat) (v : Value) (ys : List Value) (D C I : Addr) (oI : Obj) (m₁ : Str → Option Value) (news₁ : List (Addr × Obj)) (gs : Array GenState) (h : Heap) (tk nn : Nat) (g : Heap), items[i]? = some v → J i ys news₁ gs → BlockBase g s.heap as → s.heap.get? D = none → s.heap.get? C = none → (∀ p ∈ news₁, p.1 ≠ D ∧ p.1 ≠ I) → ys.length = i →
      Fr g C h (fun y => if y = x then some v else m₁ y) → News g C h ((D, listOf ys.toArray nn) :: (I, oI) :: news₁) →
      wpAny (model prog w) A (eval elt (compEnvC scope cl C env)) (EltEnd g C D I (listOf ys.toArray nn) oI s.drawn s.os fun y news' gs' => J (i + 1) (ys ++ [y]) news' gs') (fun _ _ => False) ⟨h, gs, s.drawn, tk, s.os⟩)
    (done : ∀ (D C : Addr) (ys : List Value) (m₁ : Str → Option Value) (news₁ : List (Addr × Obj)) (gs : Array GenState) (h : Heap) (tk nn : Nat) (g : Heap), J items.size ys news₁ gs → ys.length = items.size → BlockBase g s.heap as → s.heap.get? D = none → s.heap.get? C = none → D ≠ C → (∀ p ∈ news₁, p.1 ≠ D) → Fr g C h m₁ → News g C h ((D, listOf ys.toArray nn) :: news₁) → RR (.ref D) C (.ok .next) ⟨h, gs, s.drawn, tk, s.os⟩) :
    wpAny (model prog w) A (pyIter (.ref l)) (fun it s₂ => wpAny (model prog w) A (newList []) (fun acc s₃ => wpAny (model prog w) A (newFunctionEnv scope env.globals cl [] env.qual none .none (some env)) (fun cenv s₄ =>
      codeAny (model prog w) A (.compStart (.ListComp elt [⟨.Name x px, iter, [], 0⟩] scope pos) 0 it acc { cenv with scope := relabel scope env }) (RR acc cenv.locals) s₄) E s₃) E s₂) E s := by
  refine wpAny_pyIter_tuple hl ?_
  have hls : l ≠ s.heap.objs.size := let ⟨_, ho, _⟩ := hl; Nat.ne_of_lt (Heap.lt_size ho)
  refine comp_push J (Walks.tuple hh s.heap.objs.size l hls items) (.head _) (by omega) ?_ (fun b hb => List.mem_singleton.mp hb) (fun b hb => ?_) (fun i h st => let ⟨o, ho, _⟩ := st.1; ⟨o, ho⟩) has hN hj rfl hcell hkind hx ?_ done
  · exact ⟨⟨_, Heap.get?_push_size _ rfl, rfl, rfl⟩, let ⟨o, ho, r⟩ := hl; ⟨o, Heap.get?_push_of_some _ ho, r⟩⟩
  · rcases List.mem_cons.mp hb with r | r
    · exact .inl r
    · rw [List.mem_singleton.mp r]
      exact .inr ⟨hla, let ⟨o, ho, _⟩ := hl; ⟨o, ho⟩⟩
  · intro i v' ys D C I oI m₁ news₁ gs h tk nn g hi hP hj hB hD hC hne hl F N
    exact turn i v' ys D C I oI m₁ news₁ gs h tk nn g hP hj hB hD hC hne hl F N
end
end Mine
end

section
open PySem PySem.W PyProof.Rows PySem.Calls
namespace Mine
section
variable {prog : Program} {w : World} {A : Around} {E : Value → Shared → Prop} {env : Env}
theorem comp_tupleT {elt iter : Expr} {x : Str} {px : Pos} {scope : Scope} {cl : List (Str × Addr)} {pos : Pos} {s : Shared} {as : List Addr} {l : Addr} {items : Array Value} {RR : Value → Addr → Result → Shared → Prop} {news₀ : List (Addr × Obj)}
    (J : Nat → List Value → List (Addr × Obj) → Array GenState → Prop) (hh : A.handled = none) (hl : s.heap.IsTuple l items) (hn : items.size ≤ 1000) (hla : l ∉ as)
    (has : ∀ b ∈ as, ∃ o, s.heap.get? b = some o) (hN : ∀ p ∈ news₀, s.heap.get? p.1 = some p.2 ∧ p.1 ∈ as) (hj : J 0 [] news₀ s.gens)
    (hcell : ∀ y ∈ scope.names, y.2 ≠ .cell) (hkind : scope.kind = .function) (hx : scope.names.lookup x = some .local)
    (turn : ∀ (i : Nat) (v : Value) (ys : List Value) (D C I : Addr) (oI : Obj) (m₁ : Str → Option Value) (news₁ : List (Addr × Obj)) (gs : Array GenState) (h : Heap) (tk nn : Nat) (g : Heap), items[i]? = some v → J i ys news₁ gs → BlockBase g s.heap as → s.heap.get? D = none → s.heap.get? C = none → (∀ p ∈ news₁, p.1 ≠ D ∧ p.1 ≠ I) → ys.length = i → @LE.le Nat _ s.toks tk →
      Fr g C h (fun y => if y = x then some v else m₁ y) → News g C h ((D, listOf ys.toArray nn) :: (I, oI) :: news₁) →
      wpAny (model prog w) A (eval elt (compEnvC scope cl C env)) (EltEnd g C D I (listOf ys.toArray nn) oI s.drawn s.os fun y news' gs' => J (i + 1) (ys ++ [y]) news' gs') (fun _ _ => False) ⟨h, gs, s.drawn, tk, s.os⟩)
    (done : ∀ (D C : Addr) (ys : List Value) (m₁ : Str → Option Value) (news₁ : List (Addr × Obj)) (gs : Array GenState) (h : Heap) (tk nn : Nat) (g : Heap), J items.size ys news₁ gs → ys.length = items.size → BlockBase g s.heap as → s.heap.get? D = none → s.heap.get? C = none → D ≠ C → (∀ p ∈ news₁, p.1 ≠ D) → Fr g C h m₁ → News g C h ((D, listOf ys.toArray nn) :: news₁) → RR (.ref D) C (.ok .next) ⟨h, gs, s.drawn, tk, s.os⟩) :
    wpAny (model prog w) A (pyIter (.ref l)) (fun it s₂ => wpAny (model prog w) A (newList []) (fun acc s₃ => wpAny (model prog w) A (newFunctionEnv scope env.globals cl [] env.qual none .none (some env)) (fun cenv s₄ =>
      codeAny (model prog w) A (.compStart (.ListComp elt [⟨.Name x px, iter, [], 0⟩] scope pos) 0 it acc { cenv with scope := relabel scope env }) (RR acc cenv.locals) s₄) E s₃) E s₂) E s := by
  refine wpAny_pyIter_tuple hl ?_
  have hls : l ≠ s.heap.objs.size := let ⟨_, ho, _⟩ := hl; Nat.ne_of_lt (Heap.lt_size ho)
  refine comp_pushT J (Walks.tuple hh s.heap.objs.size l hls items) (.head _) (by omega) ?_ (fun b hb => List.mem_singleton.mp hb) (fun b hb => ?_) (fun i h st => let ⟨o, ho, _⟩ := st.1; ⟨o, ho⟩) has hN hj rfl hcell hkind hx ?_ done
  · exact ⟨⟨_, Heap.get?_push_size _ rfl, rfl, rfl⟩, let ⟨o, ho, r⟩ := hl; ⟨o, Heap.get?_push_of_some _ ho, r⟩⟩
  · rcases List.mem_cons.mp hb with r | r
    · exact .inl r
    · rw [List.mem_singleton.mp r]
      exact .inr ⟨hla, let ⟨o, ho, _⟩ := hl; ⟨o, ho⟩⟩
  · intro i v' ys D C I oI m₁ news₁ gs h tk nn g hi hP hj hB hD hC hne hl ht F N
    exact turn i v' ys D C I oI m₁ news₁ gs h tk nn g hP hj hB hD hC hne hl ht F N
end
end Mine
end

section
open PySem PySem.W PyProof.Rows PySem.Calls
namespace Mine
/-- a comprehension whose list is stored ahead of its frame's going -/
noncomputable def AfterUse (C : Addr) (Q : Shared → Prop) (s : Shared) : Prop := ∃ m, s.heap.Ns C m ∧ ∀ h', Heap.SameBut C s.heap h' → Q { s with heap := h' }
theorem compPost_use {M : Model} {A : Around} {E : Value → Shared → Prop} {u : Value → Sem Unit} {Q : Value → Shared → Prop} {acc : Value} {C : Addr} {f : Flow} {s' : Shared} (h : wpAny M A (u acc) (fun _ s'' => AfterUse C (Q .none) s'') E s') : compPost M A E (some u) Q acc C (.ok f) s' :=
  wpAny_mono h (fun _ _ z => z) fun _ _ e => e
/-- the state at the storing: the outer frame as it was, the block's frame an object of the ledger -/
theorem comp_use {g₀ h g h' : Heap} {L C : Addr} {m m₁ : Str → Option Value} {news newsC : List (Addr × Obj)} {as : List Addr} (F₀ : Fr g₀ L h m) (N₀ : News g₀ L h news) (B : BlockBase g h as) (hC : h.get? C = none) (hL : L ∉ as) (hgas : ∀ b ∈ as, g₀.get? b = none) (F : Fr g C h' m₁) (N : News g C h' newsC) (hn : ∀ p ∈ news, p.1 ∉ as) :
    ∃ oC, Fr g₀ L h' m ∧ News g₀ L h' ((C, oC) :: (newsC ++ news)) ∧ (∀ h'' : Heap, h''.get? C = some oC → h''.Ns C m₁) ∧ (∀ p ∈ newsC ++ news, p.1 ≠ C) ∧ L ≠ C ∧ g₀.get? C = none ∧ (∀ b o, b ∉ as → h.get? b = some o → h'.get? b = some o) := by
  have k : ∀ b o, b ∉ as → h.get? b = some o → h'.get? b = some o := fun b o hb e => F.keep b o (B.keep b o hb e)
  have hLC : L ≠ C := by
    rintro rfl
    obtain ⟨o, _, _, ho, _⟩ := F₀.ns
    rw [hC] at ho; cases ho
  have hgC : g₀.get? C = none := by
    cases q : g₀.get? C with
    | none => rfl
    | some o => rw [F₀.keep _ _ q] at hC; cases hC
  have hF := F.ns
  obtain ⟨oC, x1, x2, hoC, x3⟩ := hF
  have hc1 : ∀ p ∈ newsC, p.1 ≠ L := by
    intro p hp e
    obtain ⟨o, _, _, ho, _⟩ := F₀.ns
    have := B.keep _ o hL ho
    rw [← e, (N p hp).2.2] at this; cases this
  have hc2 : ∀ p ∈ newsC, g₀.get? p.1 = none := by
    intro p hp
    cases e : g₀.get? p.1 with
    | none => rfl
    | some o =>
      by_cases ha : p.1 ∈ as
      · rw [hgas _ ha] at e; cases e
      · have := B.keep _ o ha (F₀.keep _ o e)
        rw [(N p hp).2.2] at this; cases this
  refine ⟨oC, ⟨F₀.ns.at' fun o e => k _ o hL e, fun b o e => k b o (fun q => by rw [hgas b q] at e; cases e) (F₀.keep b o e), F₀.above⟩, fun p hp => ?_, fun h'' e => F.ns.at' fun o e' => ?_, fun p hp => ?_, hLC, hgC, k⟩
  · rcases List.mem_cons.mp hp with rfl | hp
    · exact ⟨hoC, Ne.symm hLC, hgC⟩
    rcases List.mem_append.mp hp with hp | hp
    · exact ⟨(N p hp).1, hc1 p hp, hc2 p hp⟩
    · exact ⟨k _ _ (hn p hp) (N₀ p hp).1, (N₀ p hp).2⟩
  · rw [hoC] at e'
    rw [← Option.some.inj e']
    exact e
  · rcases List.mem_append.mp hp with hp | hp
    · exact (N p hp).2.1
    · intro e
      have := (N₀ p hp).1
      rw [e, hC] at this; cases this
/-- the block's frame is let go -/
theorem use_out {g₀ h₃ h₄ : Heap} {L C : Addr} {m : Str → Option Value} {rest : List (Addr × Obj)} (F : Fr g₀ L h₃ m) (N : News g₀ L h₃ rest) (hne : ∀ p ∈ rest, p.1 ≠ C) (hLC : L ≠ C) (hgC : g₀.get? C = none) (hs : Heap.SameBut C h₃ h₄) : Fr g₀ L h₄ m ∧ News g₀ L h₄ rest :=
  ⟨⟨F.ns.at' fun o e => hs.extBut _ o hLC e, fun b o e => hs.extBut b o (fun q => by rw [q, hgC] at e; cases e) (F.keep b o e), F.above⟩, fun p hp => ⟨hs.extBut _ _ (hne p hp) (N p hp).1, (N p hp).2⟩⟩
end Mine
end

section
open PySem PySem.W PyProof.Rows PySem.Calls
namespace Mine
section
variable {prog : Program} {w : World} {A : Around} {E : Value → Shared → Prop} {env : Env}
/-- a block over the signs of a text -/
theorem comp_str {elt iter : Expr} {x : Str} {px : Pos} {scope : Scope} {cl : List (Str × Addr)} {pos : Pos} {s : Shared} {as : List Addr} {xt : Str} {tx : Tok} {RR : Value → Addr → Result → Shared → Prop} {news₀ : List (Addr × Obj)}
    (J : Nat → List Value → List (Addr × Obj) → Array GenState → Prop) (hh : A.handled = none) (hn : xt.cps.size ≤ 1000)
    (has : ∀ b ∈ as, ∃ o, s.heap.get? b = some o) (hN : ∀ p ∈ news₀, s.heap.get? p.1 = some p.2 ∧ p.1 ∈ as) (hj : J 0 [] news₀ s.gens)
    (hcell : ∀ y ∈ scope.names, y.2 ≠ .cell) (hkind : scope.kind = .function) (hx : scope.names.lookup x = some .local)
    (turn : ∀ (i c : Nat) (t : Tok) (ys : List Value) (D C I : Addr) (oI : Obj) (m₁ : Str → Option Value) (news₁ : List (Addr × Obj)) (gs : Array GenState) (h : Heap) (tk nn : Nat) (g : Heap), xt.cps[i]? = some c → J i ys news₁ gs → BlockBase g s.heap as → s.heap.get? D = none → s.heap.get? C = none → (∀ p ∈ news₁, p.1 ≠ D ∧ p.1 ≠ I) → ys.length = i →
      Fr g C h (fun y => if y = x then some (.str ⟨#[c]⟩ t) else m₁ y) → News g C h ((D, listOf ys.toArray nn) :: (I, oI) :: news₁) →
      wpAny (model prog w) A (eval elt (compEnvC scope cl C env)) (EltEnd g C D I (listOf ys.toArray nn) oI s.drawn s.os fun y news' gs' => J (i + 1) (ys ++ [y]) news' gs') (fun _ _ => False) ⟨h, gs, s.drawn, tk, s.os⟩)
    (done : ∀ (D C : Addr) (ys : List Value) (m₁ : Str → Option Value) (news₁ : List (Addr × Obj)) (gs : Array GenState) (h : Heap) (tk nn : Nat) (g : Heap), J xt.cps.size ys news₁ gs → ys.length = xt.cps.size → BlockBase g s.heap as → s.heap.get? D = none → s.heap.get? C = none → D ≠ C → (∀ p ∈ news₁, p.1 ≠ D) → Fr g C h m₁ → News g C h ((D, listOf ys.toArray nn) :: news₁) → RR (.ref D) C (.ok .next) ⟨h, gs, s.drawn, tk, s.os⟩) :
    wpAny (model prog w) A (pyIter (.str xt tx)) (fun it s₂ => wpAny (model prog w) A (newList []) (fun acc s₃ => wpAny (model prog w) A (newFunctionEnv scope env.globals cl [] env.qual none .none (some env)) (fun cenv s₄ =>
      codeAny (model prog w) A (.compStart (.ListComp elt [⟨.Name x px, iter, [], 0⟩] scope pos) 0 it acc { cenv with scope := relabel scope env }) (RR acc cenv.locals) s₄) E s₃) E s₂) E s := by
  refine wpAny_pyIter_strU ?_
  have key : ∀ (ty : String), (Walks prog w A s.heap.objs.size [s.heap.objs.size] [s.heap.objs.size] xt.cps.size (SignAt xt) (fun i h => h.IsStrIter s.heap.objs.size ty xt tx i)) →
      wpAny (model prog w) A (newList []) (fun acc s₃ => wpAny (model prog w) A (newFunctionEnv scope env.globals cl [] env.qual none .none (some env)) (fun cenv s₄ =>
      codeAny (model prog w) A (.compStart (.ListComp elt [⟨.Name x px, iter, [], 0⟩] scope pos) 0 (.ref s.heap.objs.size) acc { cenv with scope := relabel scope env }) (RR acc cenv.locals) s₄) E s₃) E
        { s with heap := s.heap.push { cls := .type ty, data := .fields #[.str xt tx, .int 0 0] } } := fun ty W =>
    comp_push J W (.head _) hn ⟨_, Heap.get?_push_size _ rfl, rfl, rfl⟩ (fun b hb => List.mem_singleton.mp hb) (fun b hb => .inl (List.mem_singleton.mp hb)) (fun i h st => let ⟨o, ho, _⟩ := st; ⟨o, ho⟩) has hN hj rfl hcell hkind hx
      (fun i v' ys D C I oI m₁ news₁ gs h tk nn g hi hP hj hB hD hC hne hl F N => by
        obtain ⟨c, u, hc, rfl⟩ := hP
        exact turn i c u ys D C I oI m₁ news₁ gs h tk nn g hc hj hB hD hC hne hl F N) done
  cases ha : xt.cps.all (· < 128)
  · have e : strIterType xt = "str_iterator" := by simp [strIterType, ha]
    rw [e]; exact key _ (Walks.strWide hh _ xt tx)
  · have e : strIterType xt = "str_ascii_iterator" := by simp [strIterType, ha]
    rw [e]; exact key _ (Walks.strAscii hh _ xt tx)
end
end Mine
end

section
open PySem PySem.W PyProof.Rows PySem.Calls
namespace Mine
/-- an element's text, and nothing else -/
noncomputable def EltText (x : Str) (h : Heap) (gs : Array GenState) (d : Drawn) (os : OsState) (y : Value) (s' : Shared) : Prop := ∃ t' tk', y = .str x t' ∧ s' = ⟨h, gs, d, tk', os⟩
section
variable {prog : Program} {w : World} {A : Around} {E : Value → Shared → Prop} {env : Env}
/-- a block over the signs of a text, each made into a text, nothing else touched -/
theorem comp_text {elt iter : Expr} {x : Str} {px : Pos} {scope : Scope} {cl : List (Str × Addr)} {pos : Pos} {s : Shared} {xt : Str} {tx : Tok} {g₀ : Heap} {L : Addr} {m : Str → Option Value} {news : List (Addr × Obj)} {Q : Value → Shared → Prop} (f : Nat → Str) (hh : A.handled = none) (hn : xt.cps.size ≤ 1000)
    (F₀ : Fr g₀ L s.heap m) (N₀ : News g₀ L s.heap news)
    (hcell : ∀ y ∈ scope.names, y.2 ≠ .cell) (hkind : scope.kind = .function) (hx : scope.names.lookup x = some .local)
    (turn : ∀ (i c : Nat) (t : Tok) (C : Addr) (m₁ : Str → Option Value) (gs : Array GenState) (h : Heap) (tk : Nat) (g : Heap), xt.cps[i]? = some c → (∀ b o, g₀.get? b = some o → g.get? b = some o) → Fr g C h (fun y => if y = x then some (.str ⟨#[c]⟩ t) else m₁ y) →
      wpAny (model prog w) A (eval elt (compEnvC scope cl C env)) (EltText (f c) h gs s.drawn s.os) (fun _ _ => False) ⟨h, gs, s.drawn, tk, s.os⟩)
    (done : ∀ (D : Addr) (ys : List Value) (nn : Nat) (h : Heap) (tk : Nat), StrsAre ys (xt.cps.toList.map f) → Fr g₀ L h m → News g₀ L h ((D, listOf ys.toArray nn) :: news) → Q (.ref D) ⟨h, s.gens, s.drawn, tk, s.os⟩) :
    wpAny (model prog w) A (pyIter (.str xt tx)) (fun it s₂ => wpAny (model prog w) A (newList []) (fun acc s₃ => wpAny (model prog w) A (newFunctionEnv scope env.globals cl [] env.qual none .none (some env)) (fun cenv s₄ =>
      codeAny (model prog w) A (.compStart (.ListComp elt [⟨.Name x px, iter, [], 0⟩] scope pos) 0 it acc { cenv with scope := relabel scope env }) (compPost (model prog w) A E none Q acc cenv.locals) s₄) E s₃) E s₂) E s := by
  refine comp_str (as := []) (news₀ := []) (fun i ys news gs => gs = s.gens ∧ news = [] ∧ StrsAre ys ((xt.cps.toList.take i).map f)) hh hn (fun _ hb => nomatch hb) (fun _ hp => nomatch hp) ⟨rfl, rfl, .nil⟩ hcell hkind hx ?_ ?_
  · rintro i c t ys D C I oI m₁ news₁ gs h tk nn g hc ⟨rfl, rfl, hz⟩ B hD hC hne hl F N
    refine wpAny_mono (turn i c t C m₁ _ h tk g hc (B.from F₀ fun _ hb => nomatch hb) F) (fun y s' q => ?_) fun _ _ y => y.elim
    obtain ⟨t', tk', rfl, rfl⟩ := q
    refine ⟨_, [], _, _, _, rfl, F, N, (fun _ hp => nomatch hp), rfl, rfl, ?_⟩
    have hc' : xt.cps.toList[i]? = some c := by simpa using hc
    rw [List.take_add_one, hc', List.map_append]
    exact hz.append' (.cons _ _ .nil)
  · rintro D C ys m₁ news₁ gs h tk nn g ⟨rfl, rfl, hz⟩ hl B hD hC hDC hne F N
    refine ⟨_, F.ns, fun h₅ hs₅ => ?_⟩
    obtain ⟨F₅, N₅, NC, _⟩ := comp_out F₀ N₀ B hC (fun q => nomatch q) (fun _ hb => nomatch hb) F N hs₅ (fun _ _ q => nomatch q)
    refine done D ys nn h₅ tk ?_ F₅ fun p hp => ?_
    · rw [show xt.cps.size = xt.cps.toList.length by simp, List.take_length] at hz
      exact hz
    · rcases List.mem_cons.mp hp with rfl | hp
      · exact NC _ (.head _)
      · exact N₅ p hp
end
end Mine
end

section
open PySem PySem.W PyProof.Rows PySem.Calls
namespace Mine
local macro_rules | `(tactic| walk_at "setAttr ref") => `(tactic| (k_here; (with_reducible show wpAny _ _ (setAttr _ (Str.ofString "read") _) _ _ _); refine' fn_setattr_K ?F ?N ?U ?hc ?hd ?hdat ?_; (case F => k_asm); (case N => k_asm); (case U => k_updF); (case hc => rfl); (case hd => rfl); (case hdat => rfl); intro d' tk' h' F' N' l1; (try dsimp only at N'); (try k_lt l1); (try k_sweep)))
theorem nl_under (A : Around) (S : Value) : (A.under (.builtin "type.__call__" ⟨[.ref 150, S], []⟩)) = { A with depth := A.depth + 1, units := A.units + 1 } := by
  unfold Around.under
  congr 1
theorem lexer_c : ∀ {w : World} {dp u : Nat} {fr : Option (List Env)} {gd : Option (List Code)} {h₀ : Heap} {mg mb : Str → Option Value} {s : Shared} {p : Program} {loose : List Str} {mean : ExcName → Option Value}
    {Q E : Value → Shared → Prop} (X : (hd.heap_1 w.params).In h₀) (T : Top p loose mean mg mb h₀) (hk : ∀ b o, h₀.get? b = some o → s.heap.get? b = some o) (hroom : dp < 350) (hu : u < 2000)
    (x : Str) (tx : Tok) (C₀ : CodeHd h₀ 160 156) (h156 : h₀.get? 156 = none) (ht : s.heap.get? 156 = some (tabObj #[])) (hx : x.length ≤ 1000)
    (h : ∀ (I : LexIds) (tl tp : Tok) (h' : Heap) (tk' : Nat), LexOk w x I → (∀ p ∈ I.all 1 tl 0 tp, h'.get? p.1 = some p.2 ∧ s.heap.get? p.1 = none) → (∃ ps, h'.get? 156 = some (tabObj ps) ∧ TriplesOk ps.toList) →
      (∀ b o, b ≠ 156 → s.heap.get? b = some o → h'.get? b = some o) → Q (.ref I.a) { s with heap := h', toks := tk' }),
    wpAny (model PySem.Challenge.rw_re0035_01.row.prog w) ⟨none, dp, fr, gd, u⟩ (call (.ref 161) [.str x tx]) Q E s := by
  k_fill
  intro w dp u fr gd h₀ mg mb s p loose mean Q E X T hk hroom hu x tx C₀ h156 ht hx hQ
  have ho := fn_at (K := hd.heap_1 w.params) (f := 161) (by k_is)
  refine' enterCT (as := [156]) (binds := [(Str.ofString "text", .str x tx)]) X T hk ?n ?k6 ?k7 ?k8 ?k9 ?kB ?c1 ?c2 ?c3 ?c4 ?_
  case n => intro b hb; rw [List.mem_singleton.mp hb]; exact h156
  case k6 => k_is
  case k7 => k_is
  case k8 => simp only [recursionLimit]; omega
  case k9 => exact BindsTo.of_eq rfl
  case kB => rfl
  case c1 => decide
  case c2 => exact rfl
  case c3 => exact rfl
  case c4 => exact rfl
  intro g L h₁ tk₁ cells hg hL F' hk₁ NC hlt CA X' T' htk₁
  obtain ⟨om, oh, rfl, dm, dh⟩ := CellsAre.two CA
  have Cg : CodeHd g 160 156 := C₀.keeps fun b o e => hg ▸ get_hide (hk b o e) (by rw [List.mem_singleton]; rintro rfl; rw [h156] at e; cases e)
  have N' : News g L h₁ [(L + 1 + 1, om), (L + 1, oh), (156, tabObj #[])] := fun p hp => by
    rcases List.mem_cons.mp hp with rfl | hp
    · exact NC _ (.head _)
    rcases List.mem_cons.mp hp with rfl | hp
    · exact NC _ (.tail _ (.head _))
    · rw [List.mem_singleton.mp hp]
      exact ⟨hk₁ _ _ ht, Nat.ne_of_lt (hL ▸ Heap.lt_size ht), hg ▸ hideAll_none _ (.head _)⟩
  have hL6 : @LT.lt Nat _ 156 L := hL ▸ Heap.lt_size ht
  replace dh : oh.data = .cell (some (.str x tx)) := dh
  clear X T CA NC C₀
  k_steps
  (with_reducible rename News _ _ _ _ => N₁)
  (with_reducible rename Fr _ _ _ _ => F₁)
  rename_i AT h6 l1a h5 oA dA R cR ocR vsR tR ctR docR h4 tk2 d1R d2R l1b l2b h3 S cS ocS vsS tS ctS h2 tk1 d1S d2S l1c l2c h1' dS tkd h0 l1d
  refine call_cls F₁ X' N₁ (by k_is) (by k_is) (by k_is) ?_
  intro a d h₂ F₂ N₂ la ld
  have la2 : @LT.lt Nat _ dS d ∧ @LT.lt Nat _ S d ∧ @LT.lt Nat _ R d ∧ @LT.lt Nat _ cR d ∧ @LT.lt Nat _ AT d ∧ @LT.lt Nat _ (L + 1 + 1) d ∧ @LT.lt Nat _ (L + 1) d ∧ @LT.lt Nat _ 156 d :=
    ⟨la (dS, _) (by k_mem), la (S, _) (by k_mem), la (R, _) (by k_mem), la (cR, ocR) (by k_mem), la (AT, listOf #[.int 0 tk₁] 0) (by k_mem), la (L + 1 + 1, oA) (by k_mem), la (L + 1, oh) (by k_mem), la (156, _) (by k_mem)⟩
  have ld2 : @LT.lt Nat _ d a := ld
  rw [nl_under]
  refine codeAny_mono (nlex_init_c (Q := fun v s' => v = .none ∧ Q (.ref a) s') (E := fun _ _ => False) X' T' F₂.keep (by show dp + 1 + 1 < 600; omega) a d _ (N₂.get (by k_mem)) (N₂.get (by k_mem)) (N₂ (a, instObj 150 d) (by k_mem)).2.2 (N₂ (d, dictOf [] 0) (by k_mem)).2.2 ?_) ?_
  · intro q k tl tw pb h₃ tk₃ hpb hd₃ hpb₃ hk₃
    refine ⟨rfl, ?_⟩
    have from2 : ∀ (b : Addr) (o : Obj), h₂.get? b = some o ∧ b ≠ L ∧ g.get? b = none → @Ne Nat b d → @LT.lt Nat _ 156 b → h₃.get? b = some o ∧ s.heap.get? b = none := fun b o n1 n2 n3 => by
      refine ⟨hk₃ _ _ n2 n1.1, ?_⟩
      have q := n1.2.2
      rw [hg] at q
      exact none_of_hide q (by rw [List.mem_singleton]; exact Nat.ne_of_gt n3)
    have kp : ∀ b o, b ≠ 156 → s.heap.get? b = some o → h₂.get? b = some o := fun b o n e => F₂.keep b o (hg ▸ get_hide e (by rw [List.mem_singleton]; exact n))
    have n156 := N₂.get (a := 156) (o := _) (by k_mem)
    have npb : s.heap.get? pb = none := by
      cases q : s.heap.get? pb with
      | none => rfl
      | some o =>
        by_cases e : pb = 156
        · have hpb : h₂.get? pb = none := hpb
          rw [e, n156] at hpb; cases hpb
        · have hpb : h₂.get? pb = none := hpb
          rw [kp pb o e q] at hpb; cases hpb
    refine' hQ ⟨a, d, S, dS, R, AT, pb, _, _, _, q, k, tw, 0, [(R, _), (cR, ocR), (L + 1, oh), (L + 1 + 1, oA)]⟩ tl tk₁ h₃ tk₃ ?k7 ?k4 ⟨_, hk₃ _ _ (Nat.ne_of_lt la2.2.2.2.2.2.2.2) n156, ?k6⟩ ?k5
    case k4 =>
      refine List.forall_mem_cons.mpr ⟨⟨hd₃, ?_⟩, ?_⟩
      · have q := (N₂ (d, dictOf [] 0) (by k_mem)).2.2
        rw [hg] at q
        exact none_of_hide q (by rw [List.mem_singleton]; exact Nat.ne_of_gt la2.2.2.2.2.2.2.2)
      refine List.forall_mem_cons.mpr ⟨from2 AT _ (N₂ (AT, listOf _ _) (by k_mem)) (Nat.ne_of_lt la2.2.2.2.2.1) (by omega), ?_⟩
      refine List.forall_mem_cons.mpr ⟨from2 a (instObj 150 d) (N₂ (a, instObj 150 d) (by k_mem)) (Nat.ne_of_gt ld2) (by omega), ?_⟩
      refine List.forall_mem_cons.mpr ⟨from2 S _ (N₂ (S, _) (by k_mem)) (Nat.ne_of_lt la2.2.1) (by omega), ?_⟩
      refine List.forall_mem_cons.mpr ⟨from2 dS _ (N₂ (dS, dictOf _ _) (by k_mem)) (Nat.ne_of_lt la2.1) (by omega), ?_⟩
      refine List.forall_mem_cons.mpr ⟨⟨hpb₃, npb⟩, ?_⟩
      refine List.forall_mem_cons.mpr ⟨from2 R _ (N₂ (R, _) (by k_mem)) (Nat.ne_of_lt la2.2.2.1) (by omega), ?_⟩
      refine List.forall_mem_cons.mpr ⟨from2 cR _ (N₂ (cR, ocR) (by k_mem)) (Nat.ne_of_lt la2.2.2.2.1) (by omega), ?_⟩
      refine List.forall_mem_cons.mpr ⟨from2 (L + 1) _ (N₂ (L + 1, oh) (by k_mem)) (Nat.ne_of_lt la2.2.2.2.2.2.2.1) (by omega), ?_⟩
      refine List.forall_mem_cons.mpr ⟨from2 (L + 1 + 1) _ (N₂ (L + 1 + 1, oA) (by k_mem)) (Nat.ne_of_lt la2.2.2.2.2.2.1) (by omega), List.forall_mem_nil _⟩
    case k7 =>
      refine ⟨rfl, rfl, ⟨_, rfl⟩, read_spec ho R cR (L + 1) (L + 1 + 1) AT x tx _ ocR oh oA _ _ _ _ _ vsR tR (by omega) rfl d1R d2R dh dA, ?_, hx, ⟨_, _, _, _, .head _⟩⟩
      dsimp only
      refine List.forall_mem_cons.mpr ⟨⟨Nat.ne_of_lt la2.2.2.1, ?_⟩, List.forall_mem_cons.mpr ⟨⟨Nat.ne_of_lt la2.2.2.2.1, ?_⟩, List.forall_mem_cons.mpr ⟨⟨Nat.ne_of_lt la2.2.2.2.2.2.2.1, ?_⟩, List.forall_mem_cons.mpr ⟨⟨Nat.ne_of_lt la2.2.2.2.2.2.1, ?_⟩, List.forall_mem_nil _⟩⟩⟩⟩
      all_goals (have q1 := l1b.1; have q2 := l2b; have q3 := l1a; show @Ne Nat _ _; omega)
    case k6 => kn_triples
    case k5 =>
      intro b o n e
      refine hk₃ b o ?_ (kp b o n e)
      rintro rfl
      have q := (N₂ (b, dictOf [] 0) (by k_mem)).2.2
      rw [hg] at q
      have := none_of_hide q (by rw [List.mem_singleton]; exact n)
      rw [this] at e; cases e
  · intro r s' z
    rcases r with e | (v | _ | _ | _) <;> first | exact z | exact z.elim
end Mine
end

section
open PySem PySem.W PyProof.Rows PySem.Calls
local macro_rules | `(tactic| walk_at "eval Name") => `(tactic| (k_here; k_dflt (refine' nameX_L ?F ?v ?_ ?a ?b; (case F => k_asm); (case a => rfl); (case b => rfl); (case v => assumption); k_whole)))

section
open PySem PySem.W PyProof.Rows PySem.Calls
local macro_rules | `(tactic| walk_at "call ref") => `(tactic| refine hold ?_)

section
open PySem PySem.W PyProof.Rows PySem.Calls
local macro_rules | `(tactic| walk_at "call ref nil") => `(tactic| refine hold ?_)
local macro_rules | `(tactic| walk_at "loadName") => `(tactic| ((with_reducible rename Fr _ _ _ _ => aF); refine wpAny_loadName_local rfl rfl aF.ns (by assumption) ?_))

section
open PySem PySem.W PyProof.Rows PySem.Calls
namespace Mine
noncomputable def nl (ln : Int) (c : Nat) : Int := if c = 10 then ln + 1 else ln
theorem nl_pos {ln : Int} {c : Nat} (h : 0 ≤ ln) : 0 ≤ nl ln c := by unfold nl; split <;> omega
theorem nl_le (ln : Int) (c : Nat) : ln ≤ nl ln c := by unfold nl; split <;> omega
/-- within quotation marks: from (place, line, token) to the closing one -/
inductive QuoteRun (x : Str) : Nat → Int → List Nat → Nat → Int → List Nat → Prop
  | stop {i ln t} : x.cps[i]? = some 34 → QuoteRun x i ln t (i + 1) ln t
  | esc {i ln t c i' ln' t'} : x.cps[i]? = some 92 → x.cps[i + 1]? = some c → QuoteRun x (i + 2) (nl ln c) (t ++ [c]) i' ln' t' → QuoteRun x i ln t i' ln' t'
  | plain {i ln t c i' ln' t'} : x.cps[i]? = some c → c ≠ 34 → c ≠ 92 → QuoteRun x (i + 1) (nl ln c) (t ++ [c]) i' ln' t' → QuoteRun x i ln t i' ln' t'
noncomputable def wsSign (c : Nat) : Bool := c == 10 || c == 9 || c == 13 || c == 32
/-- outside them: up to the next white space -/
inductive PlainRun (x : Str) : Nat → Int → List Nat → Nat → Int → List Nat → Prop
  | stop {i ln t c} : x.cps[i]? = some c → c < 128 → wsSign c = true → PlainRun x i ln t (i + 1) (nl ln c) t
  | esc {i ln t c i' ln' t'} : x.cps[i]? = some 92 → x.cps[i + 1]? = some c → PlainRun x (i + 2) (nl ln c) (t ++ [c]) i' ln' t' → PlainRun x i ln t i' ln' t'
  | plain {i ln t c i' ln' t'} : x.cps[i]? = some c → c < 128 → wsSign c = false → c ≠ 92 → PlainRun x (i + 1) (nl ln c) (t ++ [c]) i' ln' t' → PlainRun x i ln t i' ln' t'
noncomputable def lastIfBody (l : List Stmt) : List Stmt := (lastOf (0, [], []) l).2.1
noncomputable def lastIfElse (l : List Stmt) : List Stmt := (lastOf (0, [], []) l).2.2
theorem QuoteRun.mono {x : Str} {i i' : Nat} {ln ln' : Int} {t t' : List Nat} (r : QuoteRun x i ln t i' ln' t') : ln ≤ ln' ∧ t.length ≤ t'.length := by
  induction r with
  | stop h => exact ⟨Int.le_refl _, Nat.le_refl _⟩
  | esc _ _ _ ih => exact ⟨Int.le_trans (nl_le _ _) ih.1, by have := ih.2; rw [List.length_append] at this; omega⟩
  | plain _ _ _ _ ih => exact ⟨Int.le_trans (nl_le _ _) ih.1, by have := ih.2; rw [List.length_append] at this; omega⟩
theorem PlainRun.mono {x : Str} {i i' : Nat} {ln ln' : Int} {t t' : List Nat} (r : PlainRun x i ln t i' ln' t') : ln ≤ ln' ∧ t.length ≤ t'.length := by
  induction r with
  | stop _ _ _ => exact ⟨nl_le _ _, Nat.le_refl _⟩
  | esc _ _ _ ih => exact ⟨Int.le_trans (nl_le _ _) ih.1, by have := ih.2; rw [List.length_append] at this; omega⟩
  | plain _ _ _ _ _ ih => exact ⟨Int.le_trans (nl_le _ _) ih.1, by have := ih.2; rw [List.length_append] at this; omega⟩
theorem QuoteRun.lt {x : Str} {i i' : Nat} {ln ln' : Int} {t t' : List Nat} (r : QuoteRun x i ln t i' ln' t') : i < x.length := by
  cases r with
  | stop h => exact (Array.getElem?_eq_some_iff.mp h).1
  | esc h _ _ => exact (Array.getElem?_eq_some_iff.mp h).1
  | plain h _ _ _ => exact (Array.getElem?_eq_some_iff.mp h).1
theorem PlainRun.lt {x : Str} {i i' : Nat} {ln ln' : Int} {t t' : List Nat} (r : PlainRun x i ln t i' ln' t') : i < x.length := by
  cases r with
  | stop h _ _ => exact (Array.getElem?_eq_some_iff.mp h).1
  | esc h _ _ => exact (Array.getElem?_eq_some_iff.mp h).1
  | plain h _ _ _ _ => exact (Array.getElem?_eq_some_iff.mp h).1
/-- the lexer's frame and ledger within get_token -/
inductive LexSt (g : Heap) (L : Addr) (I : LexIds) (it q : Addr) (tq : Tok) (gs : Array GenState) (dr : Drawn) (os : OsState) (i : Nat) (ln : Int) (t : List Nat) (s : Shared) : Prop
  | mk : ∀ m h tk tl tp tt, (s = ⟨h, gs, dr, tk, os⟩) → (Fr g L h m) → (News g L h ((it, callIt q tq) :: (q, methodObj (.ref 133) (.ref I.a)) :: I.all ln tl i tp)) → (m (Str.ofString "token") = some (.str ⟨t.toArray⟩ tt)) → (m (Str.ofString "fiter") = some (.ref it)) → (m (Str.ofString "self") = some (.ref I.a)) → LexSt g L I it q tq gs dr os i ln t s
noncomputable def QuotePost (g : Heap) (L : Addr) (I : LexIds) (it q : Addr) (tq : Tok) (gs : Array GenState) (dr : Drawn) (os : OsState) (x : Str) (i i' : Nat) (ln' : Int) (t' : List Nat) (f : Flow) (s : Shared) : Prop :=
  match f with
  | .next | .cont => ∃ i2 ln2 t2, i < i2 ∧ 0 ≤ ln2 ∧ QuoteRun x i2 ln2 t2 i' ln' t' ∧ LexSt g L I it q tq gs dr os i2 ln2 t2 s
  | .brk => False
  | .ret v => ∃ tt, v = .str ⟨t'.toArray⟩ tt ∧ LexSt g L I it q tq gs dr os i' ln' t' s
theorem push_sign (t : List Nat) (c : Nat) : ((⟨t.toArray⟩ : Str) ++ ⟨#[c]⟩) = ⟨(t ++ [c]).toArray⟩ := by
  show (⟨t.toArray ++ #[c]⟩ : Str) = _
  simp
theorem sign_off {c d : Nat} (h : c ≠ d) : ((⟨#[c]⟩ : Str) == ⟨#[d]⟩) = false := by
  cases q : ((⟨#[c]⟩ : Str) == ⟨#[d]⟩) with
  | false => rfl
  | true => exact absurd (by simpa using q) h
theorem quote_turn : ∀ {w : World} {dp u : Nat} {fr : Option (List Env)} {gd : Option (List Code)} {g : Heap} {mg mb : Str → Option Value} {p : Program} {loose : List Str} {mean : ExcName → Option Value} {L : Addr}
    {name qual : Str} {params : Arguments} {body : List Stmt} {scope : Scope} {dV kV doc pm cdv ct oc : Value} {an od : Option Addr} {osl : Array (Option Value)}
    (X' : (hd.heap_1 w.params).In g) (T' : Top p loose mean mg mb g) (hroom : dp < 400) (hu : u < 4000)
    (ho : (hd.heap_1 w.params).lookup 140 = some ⟨oc, od, .func (fnOf name qual params body scope dV kV doc pm an cdv ct), osl⟩)
    (x : Str) (I : LexIds) (O : LexOk w x I) (it q : Addr) (tq tt : Tok) (ln : Int) (tl tp tc : Tok) (i c : Nat) (t : List Nat) (m : Str → Option Value) (h₁ : Heap) (gs : Array GenState) (dr : Drawn) (tk : Nat) (os : OsState)
    (hc : x.cps[i]? = some c) (hln : 0 ≤ ln ∧ ln ≤ 90000) (ht : t.length ≤ 2000) (i' : Nat) (ln' : Int) (t' : List Nat) (run : QuoteRun x i ln t i' ln' t')
    (m1 : m (Str.ofString "token") = some (.str ⟨t.toArray⟩ tt)) (m2 : m (Str.ofString "fiter") = some (.ref it)) (m3 : m (Str.ofString "self") = some (.ref I.a))
    (F : Fr g L h₁ (fun y => if y = Str.ofString "ch" then some (.str ⟨#[c]⟩ tc) else m y)) (N : News g L h₁ ((it, callIt q tq) :: (q, methodObj (.ref 133) (.ref I.a)) :: I.all (nl ln c) tl (i + 1) tp)),
    wpAny (model PySem.Challenge.rw_re0035_01.row.prog w) (Around.deeper ⟨none, dp, fr, gd, u⟩ (envOf qual scope L 140 cdv)) (execs (forBody (lastIfBody (forBody body))) (envOf qual scope L 140 cdv)) (QuotePost g L I it q tq gs dr os x i i' ln' t') (fun _ _ => False) ⟨h₁, gs, dr, tk, os⟩ := by
  k_fill
  intro w dp u fr gd g mg mb p loose mean L name qual params body scope dV kV doc pm cdv ct oc an od osl X' T' hroom hu ho x I O it q tq tt ln tl tp tc i c t m h₁ gs dr tk os hc hln ht i' ln' t' run m1 m2 m3 F N
  obtain ⟨q1, q2, q3, q4⟩ := fn_inj ho (by k_is)
  subst q1 q2 q3 q4
  clear ho
  conv in (execs _ _) => arg 1; whnf
  cases run with
  | stop h =>
    rw [hc] at h
    cases h
    k_steps
    (with_reducible rename News _ _ _ _ => N₂)
    (with_reducible rename Fr _ _ _ _ => F₂)
    exact ⟨_, rfl, _, _, _, _, _, _, rfl, F₂, N₂, m1, m2, m3⟩
  | esc h h2 r =>
    rename_i c2
    rw [hc] at h
    cases h
    have hlen : (⟨t.toArray⟩ : Str).length ≤ 2000 := by show (List.toArray _).size ≤ _; simpa using ht
    have hlen1 : (⟨#[c2]⟩ : Str).length = 1 := rfl
    have hlt1 : i + 1 < x.length := (Array.getElem?_eq_some_iff.mp h2).1
    have hnl : nl ln 92 = ln := rfl
    rw [hnl] at N
    k_steps
    unfold Hold
    (with_reducible rename News _ _ _ _ => N₁)
    (with_reducible rename Fr _ _ _ _ => F₁)
    show wpAny _ _ (call (.ref 133) [.ref I.a]) _ _ _
    refine read_char_c X' T' F₁.keep (by dsimp only; omega) (by dsimp only; omega) x I O ln tl (i + 1) tp (by omega) (by omega) (fun p hp => ⟨(N₁ p (.tail _ (.tail _ hp))).1, (N₁ p (.tail _ (.tail _ hp))).2.2⟩) ?_
    intro tr tl' tp' h₂ tk₂ hall hk
    obtain ⟨F₂, N₂⟩ := lex_over (pre := [(it, callIt q tq), (q, methodObj (.ref 133) (.ref I.a))]) F₁ N₁ (it_apart rfl N₁).1 hall hk
    have en : nextAt x (i + 1) = i + 2 := by unfold nextAt; rw [if_pos hlt1]
    have ec : (if signAt x (i + 1) = (⟨#[10]⟩ : Str) then ln + 1 else ln) = nl ln c2 := by
      rw [sign_some h2]
      unfold nl
      by_cases q : c2 = 10
      · rw [if_pos q, if_pos (by rw [q])]
      · rw [if_neg q, if_neg (by simpa using q)]
    rw [en, ec] at N₂
    rw [sign_some h2]
    clear F₁ N₁ hk hall
    k_steps
    (with_reducible rename News _ _ _ _ => N₃)
    (with_reducible rename Fr _ _ _ _ => F₃)
    rw [push_sign] at F₃
    exact ⟨i + 2, _, _, by omega, nl_pos hln.1, r, _, _, _, _, _, _, rfl, F₃, N₃, rfl, m2, m3⟩
  | plain h n1 n2 r =>
    rw [hc] at h
    cases h
    have b1 : ((⟨#[c]⟩ : Str) == Str.ofString "\"") = false := sign_off n1
    have b2 : ((⟨#[c]⟩ : Str) == Str.ofString "\\") = false := sign_off n2
    have hlen : (⟨t.toArray⟩ : Str).length ≤ 2000 := by show (List.toArray _).size ≤ _; simpa using ht
    have hlen1 : (⟨#[c]⟩ : Str).length = 1 := rfl
    k_steps
    (with_reducible rename News _ _ _ _ => N₂)
    (with_reducible rename Fr _ _ _ _ => F₂)
    rw [push_sign] at F₂
    exact ⟨i + 1, _, _, Nat.lt_succ_self _, nl_pos hln.1, r, _, _, _, _, _, _, rfl, F₂, N₂, rfl, m2, m3⟩
end Mine
end

section
open PySem PySem.W PyProof.Rows PySem.Calls
namespace Mine
local macro_rules | `(tactic| walk_at "no such key 0") => `(tactic| fail)
theorem ws_ok : ((List.range 128).all fun c => (!(Builtin.Str.occurrences (Str.ofString "\n\t\r ") ⟨#[c]⟩ 0 (Str.ofString "\n\t\r ").length 1).isEmpty) == wsSign c) = true := by decide +kernel
theorem ws_in {c : Nat} (h : c < 128) : (!(Builtin.Str.occurrences (Str.ofString "\n\t\r ") ⟨#[c]⟩ 0 (Str.ofString "\n\t\r ").length 1).isEmpty) = wsSign c :=
  beq_iff_eq.mp (List.all_eq_true.mp ws_ok c (List.mem_range.mpr h))
noncomputable def PlainPost (g : Heap) (L : Addr) (I : LexIds) (it q : Addr) (tq : Tok) (gs : Array GenState) (dr : Drawn) (os : OsState) (x : Str) (i i' : Nat) (ln' : Int) (t' : List Nat) (f : Flow) (s : Shared) : Prop :=
  match f with
  | .next | .cont => ∃ i2 ln2 t2, i < i2 ∧ 0 ≤ ln2 ∧ PlainRun x i2 ln2 t2 i' ln' t' ∧ LexSt g L I it q tq gs dr os i2 ln2 t2 s
  | .brk => False
  | .ret v => ∃ tt, v = .str ⟨t'.toArray⟩ tt ∧ LexSt g L I it q tq gs dr os i' ln' t' s
theorem plain_turn : ∀ {w : World} {dp u : Nat} {fr : Option (List Env)} {gd : Option (List Code)} {g : Heap} {mg mb : Str → Option Value} {p : Program} {loose : List Str} {mean : ExcName → Option Value} {L : Addr}
    {name qual : Str} {params : Arguments} {body : List Stmt} {scope : Scope} {dV kV doc pm cdv ct oc : Value} {an od : Option Addr} {osl : Array (Option Value)}
    (X' : (hd.heap_1 w.params).In g) (T' : Top p loose mean mg mb g) (hroom : dp < 400) (hu : u < 4000)
    (ho : (hd.heap_1 w.params).lookup 140 = some ⟨oc, od, .func (fnOf name qual params body scope dV kV doc pm an cdv ct), osl⟩)
    (x : Str) (I : LexIds) (O : LexOk w x I) (it q : Addr) (tq tt : Tok) (ln : Int) (tl tp tc : Tok) (i c : Nat) (t : List Nat) (m : Str → Option Value) (h₁ : Heap) (gs : Array GenState) (dr : Drawn) (tk : Nat) (os : OsState)
    (hc : x.cps[i]? = some c) (hln : 0 ≤ ln ∧ ln ≤ 90000) (ht : t.length ≤ 2000) (i' : Nat) (ln' : Int) (t' : List Nat) (run : PlainRun x i ln t i' ln' t')
    (m1 : m (Str.ofString "token") = some (.str ⟨t.toArray⟩ tt)) (m2 : m (Str.ofString "fiter") = some (.ref it)) (m3 : m (Str.ofString "self") = some (.ref I.a))
    (F : Fr g L h₁ (fun y => if y = Str.ofString "ch" then some (.str ⟨#[c]⟩ tc) else m y)) (N : News g L h₁ ((it, callIt q tq) :: (q, methodObj (.ref 133) (.ref I.a)) :: I.all (nl ln c) tl (i + 1) tp)),
    wpAny (model PySem.Challenge.rw_re0035_01.row.prog w) (Around.deeper ⟨none, dp, fr, gd, u⟩ (envOf qual scope L 140 cdv)) (execs (forBody (lastIfElse (forBody body))) (envOf qual scope L 140 cdv)) (PlainPost g L I it q tq gs dr os x i i' ln' t') (fun _ _ => False) ⟨h₁, gs, dr, tk, os⟩ := by
  k_fill
  intro w dp u fr gd g mg mb p loose mean L name qual params body scope dV kV doc pm cdv ct oc an od osl X' T' hroom hu ho x I O it q tq tt ln tl tp tc i c t m h₁ gs dr tk os hc hln ht i' ln' t' run m1 m2 m3 F N
  obtain ⟨q1, q2, q3, q4⟩ := fn_inj ho (by k_is)
  subst q1 q2 q3 q4
  clear ho
  conv in (execs _ _) => arg 1; whnf
  cases run with
  | stop h hc8 hw =>
    rw [hc] at h
    cases h
    have hws := ws_in hc8
    rw [hw] at hws
    k_steps
    (with_reducible rename News _ _ _ _ => N₂)
    (with_reducible rename Fr _ _ _ _ => F₂)
    exact ⟨_, rfl, _, _, _, _, _, _, rfl, F₂, N₂, m1, m2, m3⟩
  | esc h h2 r =>
    rename_i c2
    rw [hc] at h
    have h9 : c = 92 := Option.some.inj h
    have hws := ws_in (c := c) (by omega)
    rw [show wsSign c = false by rw [h9]; rfl] at hws
    have b2 : ((⟨#[c]⟩ : Str) == Str.ofString "\\") = true := by rw [h9]; rfl
    have hlen : (⟨t.toArray⟩ : Str).length ≤ 2000 := by show (List.toArray _).size ≤ _; simpa using ht
    have hlen1 : (⟨#[c2]⟩ : Str).length = 1 := rfl
    have hlt1 : i + 1 < x.length := (Array.getElem?_eq_some_iff.mp h2).1
    have hnl : nl ln c = ln := by rw [h9]; rfl
    rw [hnl] at N
    k_steps
    unfold Hold
    (with_reducible rename News _ _ _ _ => N₁)
    (with_reducible rename Fr _ _ _ _ => F₁)
    show wpAny _ _ (call (.ref 133) [.ref I.a]) _ _ _
    refine read_char_c X' T' F₁.keep (by dsimp only; omega) (by dsimp only; omega) x I O ln tl (i + 1) tp (by omega) (by omega) (fun p hp => ⟨(N₁ p (.tail _ (.tail _ hp))).1, (N₁ p (.tail _ (.tail _ hp))).2.2⟩) ?_
    intro tr tl' tp' h₂ tk₂ hall hk
    obtain ⟨F₂, N₂⟩ := lex_over (pre := [(it, callIt q tq), (q, methodObj (.ref 133) (.ref I.a))]) F₁ N₁ (it_apart rfl N₁).1 hall hk
    have en : nextAt x (i + 1) = i + 2 := by unfold nextAt; rw [if_pos hlt1]
    have ec : (if signAt x (i + 1) = (⟨#[10]⟩ : Str) then ln + 1 else ln) = nl ln c2 := by
      rw [sign_some h2]
      unfold nl
      by_cases q : c2 = 10
      · rw [if_pos q, if_pos (by rw [q])]
      · rw [if_neg q, if_neg (by simpa using q)]
    rw [en, ec] at N₂
    rw [sign_some h2]
    clear F₁ N₁ hk hall
    k_steps
    (with_reducible rename News _ _ _ _ => N₃)
    (with_reducible rename Fr _ _ _ _ => F₃)
    rw [push_sign] at F₃
    exact ⟨i + 2, _, _, by omega, nl_pos hln.1, r, _, _, _, _, _, _, rfl, F₃, N₃, rfl, m2, m3⟩
  | plain h hc8 n1 n2 r =>
    rw [hc] at h
    cases h
    have hws := ws_in hc8
    rw [n1] at hws
    have b2 : ((⟨#[c]⟩ : Str) == Str.ofString "\\") = false := sign_off n2
    have hlen : (⟨t.toArray⟩ : Str).length ≤ 2000 := by show (List.toArray _).size ≤ _; simpa using ht
    have hlen1 : (⟨#[c]⟩ : Str).length = 1 := rfl
    k_steps
    (with_reducible rename News _ _ _ _ => N₂)
    (with_reducible rename Fr _ _ _ _ => F₂)
    rw [push_sign] at F₂
    exact ⟨i + 1, _, _, Nat.lt_succ_self _, nl_pos hln.1, r, _, _, _, _, _, _, rfl, F₂, N₂, rfl, m2, m3⟩
end Mine
end

section
open PySem PySem.W PyProof.Rows PySem.Calls
namespace Mine
/-- the loop within quotation marks, from a place to its return -/
theorem quote_loop : ∀ {w : World} {dp u : Nat} {fr : Option (List Env)} {gd : Option (List Code)} {g : Heap} {mg mb : Str → Option Value} {p : Program} {loose : List Str} {mean : ExcName → Option Value} {L : Addr}
    {name qual : Str} {params : Arguments} {body : List Stmt} {scope : Scope} {dV kV doc pm cdv ct oc : Value} {an od : Option Addr} {osl : Array (Option Value)} {px : Pos}
    (X' : (hd.heap_1 w.params).In g) (T' : Top p loose mean mg mb g) (hroom : dp < 400) (hu : u < 4000)
    (ho : (hd.heap_1 w.params).lookup 140 = some ⟨oc, od, .func (fnOf name qual params body scope dV kV doc pm an cdv ct), osl⟩)
    (hx : (envOf qual scope L 140 cdv).kindOf (Str.ofString "ch") = some .local) (hp : (scope.kind == .class || (scope.kind == .module && L != (envOf qual scope L 140 cdv).globals)) = false)
    (x : Str) (I : LexIds) (O : LexOk w x I) (it q : Addr) (tq : Tok) (hif : ∀ p ∈ I.fix, @Ne Nat p.1 it) (i : Nat) (ln : Int) (t : List Nat) (gs : Array GenState) (dr : Drawn) (os : OsState)
    (hln : 0 ≤ ln) (i' : Nat) (ln' : Int) (t' : List Nat) (hln' : ln' ≤ 90000) (ht' : t'.length ≤ 2000) (run : QuoteRun x i ln t i' ln' t') (s : Shared) (S : LexSt g L I it q tq gs dr os i ln t s),
    codeAny (model PySem.Challenge.rw_re0035_01.row.prog w) (Around.deeper ⟨none, dp, fr, gd, u⟩ (envOf qual scope L 140 cdv)) (.forLoop (.Name (Str.ofString "ch") px) (.ref it) (forBody (lastIfBody (forBody body))) [] (envOf qual scope L 140 cdv))
      (fun r s' => match r with | .ok (.ret v) => ∃ tt, v = .str ⟨t'.toArray⟩ tt ∧ LexSt g L I it q tq gs dr os i' ln' t' s' | _ => False) s := by
  intro w dp u fr gd g mg mb p loose mean L name qual params body scope dV kV doc pm cdv ct oc an od osl px X' T' hroom hu ho hx hp x I O it q tq hif i ln t gs dr os hln i' ln' t' hln' ht' run s S
  refine codeAny_forLoop (fun k s₁ => ∃ i ln t, k = x.length - i ∧ 0 ≤ ln ∧ QuoteRun x i ln t i' ln' t' ∧ LexSt g L I it q tq gs dr os i ln t s₁) ?_ _ ⟨i, ln, t, rfl, hln, run, S⟩
  rintro k s₁ ⟨i, ln, t, rfl, hln, run, m, h, tk, tl, tp, tt, rfl, F, N, m1, m2, m3⟩
  have hlt := run.lt
  have hm := run.mono
  refine wpAny_mono (E := fun _ _ => False) ?_ (fun _ _ y => y) fun _ _ y => y.elim
  refine next_char X' T' (by show dp + 1 < 450; omega) (by show u + 3 < 4500; omega) x I O ln tl i tp it q tq (Nat.le_of_lt hlt) ⟨hln, by omega⟩ hif F N ?_ (fun _ _ _ _ e => absurd e (Nat.ne_of_lt hlt))
  intro c tc tl' tp' h' tk' hc F' N'
  dsimp only
  refine wpAny_mono (E := fun _ _ => False) ?_ (fun _ _ y => y) fun _ _ y => y.elim
  refine wpAny_assign_Name (wpAny_storeName_local hx F'.ns (fun h₂ hns hsb => ?_) hp)
  refine wpAny_mono (quote_turn X' T' hroom hu ho x I O it q tq tt ln tl' tp' tc i c t m h₂ gs dr _ os hc ⟨hln, by omega⟩ (by omega) i' ln' t' run m1 m2 m3 (F'.set hns hsb) (N'.set hsb)) (fun f s₃ z => ?_) fun _ _ y => y.elim
  cases f with
  | next => obtain ⟨i2, ln2, t2, a, b, c', d⟩ := z; exact ⟨_, by omega, i2, ln2, t2, rfl, b, c', d⟩
  | cont => obtain ⟨i2, ln2, t2, a, b, c', d⟩ := z; exact ⟨_, by omega, i2, ln2, t2, rfl, b, c', d⟩
  | brk => exact z.elim
  | ret v => exact z
/-- the loop outside them, from a place to its return -/
theorem plain_loop : ∀ {w : World} {dp u : Nat} {fr : Option (List Env)} {gd : Option (List Code)} {g : Heap} {mg mb : Str → Option Value} {p : Program} {loose : List Str} {mean : ExcName → Option Value} {L : Addr}
    {name qual : Str} {params : Arguments} {body : List Stmt} {scope : Scope} {dV kV doc pm cdv ct oc : Value} {an od : Option Addr} {osl : Array (Option Value)} {px : Pos}
    (X' : (hd.heap_1 w.params).In g) (T' : Top p loose mean mg mb g) (hroom : dp < 400) (hu : u < 4000)
    (ho : (hd.heap_1 w.params).lookup 140 = some ⟨oc, od, .func (fnOf name qual params body scope dV kV doc pm an cdv ct), osl⟩)
    (hx : (envOf qual scope L 140 cdv).kindOf (Str.ofString "ch") = some .local) (hp : (scope.kind == .class || (scope.kind == .module && L != (envOf qual scope L 140 cdv).globals)) = false)
    (x : Str) (I : LexIds) (O : LexOk w x I) (it q : Addr) (tq : Tok) (hif : ∀ p ∈ I.fix, @Ne Nat p.1 it) (i : Nat) (ln : Int) (t : List Nat) (gs : Array GenState) (dr : Drawn) (os : OsState)
    (hln : 0 ≤ ln) (i' : Nat) (ln' : Int) (t' : List Nat) (hln' : ln' ≤ 90000) (ht' : t'.length ≤ 2000) (run : PlainRun x i ln t i' ln' t') (s : Shared) (S : LexSt g L I it q tq gs dr os i ln t s),
    codeAny (model PySem.Challenge.rw_re0035_01.row.prog w) (Around.deeper ⟨none, dp, fr, gd, u⟩ (envOf qual scope L 140 cdv)) (.forLoop (.Name (Str.ofString "ch") px) (.ref it) (forBody (lastIfElse (forBody body))) [] (envOf qual scope L 140 cdv))
      (fun r s' => match r with | .ok (.ret v) => ∃ tt, v = .str ⟨t'.toArray⟩ tt ∧ LexSt g L I it q tq gs dr os i' ln' t' s' | _ => False) s := by
  intro w dp u fr gd g mg mb p loose mean L name qual params body scope dV kV doc pm cdv ct oc an od osl px X' T' hroom hu ho hx hp x I O it q tq hif i ln t gs dr os hln i' ln' t' hln' ht' run s S
  refine codeAny_forLoop (fun k s₁ => ∃ i ln t, k = x.length - i ∧ 0 ≤ ln ∧ PlainRun x i ln t i' ln' t' ∧ LexSt g L I it q tq gs dr os i ln t s₁) ?_ _ ⟨i, ln, t, rfl, hln, run, S⟩
  rintro k s₁ ⟨i, ln, t, rfl, hln, run, m, h, tk, tl, tp, tt, rfl, F, N, m1, m2, m3⟩
  have hlt := run.lt
  have hm := run.mono
  refine wpAny_mono (E := fun _ _ => False) ?_ (fun _ _ y => y) fun _ _ y => y.elim
  refine next_char X' T' (by show dp + 1 < 450; omega) (by show u + 3 < 4500; omega) x I O ln tl i tp it q tq (Nat.le_of_lt hlt) ⟨hln, by omega⟩ hif F N ?_ (fun _ _ _ _ e => absurd e (Nat.ne_of_lt hlt))
  intro c tc tl' tp' h' tk' hc F' N'
  dsimp only
  refine wpAny_mono (E := fun _ _ => False) ?_ (fun _ _ y => y) fun _ _ y => y.elim
  refine wpAny_assign_Name (wpAny_storeName_local hx F'.ns (fun h₂ hns hsb => ?_) hp)
  refine wpAny_mono (plain_turn X' T' hroom hu ho x I O it q tq tt ln tl' tp' tc i c t m h₂ gs dr _ os hc ⟨hln, by omega⟩ (by omega) i' ln' t' run m1 m2 m3 (F'.set hns hsb) (N'.set hsb)) (fun f s₃ z => ?_) fun _ _ y => y.elim
  cases f with
  | next => obtain ⟨i2, ln2, t2, a, b, c', d⟩ := z; exact ⟨_, by omega, i2, ln2, t2, rfl, b, c', d⟩
  | cont => obtain ⟨i2, ln2, t2, a, b, c', d⟩ := z; exact ⟨_, by omega, i2, ln2, t2, rfl, b, c', d⟩
  | brk => exact z.elim
  | ret v => exact z
end Mine
end

section
open PySem PySem.W PyProof.Rows PySem.Calls
namespace Mine
/-- what get_token reads, from (place, line) to (place, line, token) -/
inductive TokRun (x : Str) : Nat → Int → Nat → Int → List Nat → Prop
  | eof {i ln} : i = x.length → TokRun x i ln i ln []
  | ws {i ln c i' ln' t'} : x.cps[i]? = some c → c < 128 → wsSign c = true → TokRun x (i + 1) (nl ln c) i' ln' t' → TokRun x i ln i' ln' t'
  | quote {i ln i' ln' t'} : x.cps[i]? = some 34 → QuoteRun x (i + 1) ln [] i' ln' t' → TokRun x i ln i' ln' t'
  | plain {i ln c i' ln' t'} : x.cps[i]? = some c → c < 128 → wsSign c = false → c ≠ 34 → c ≠ 92 → PlainRun x (i + 1) (nl ln c) [c] i' ln' t' → TokRun x i ln i' ln' t'
  | esc {i ln c i' ln' t'} : x.cps[i]? = some 92 → x.cps[i + 1]? = some c → PlainRun x (i + 2) (nl ln c) [c] i' ln' t' → TokRun x i ln i' ln' t'
theorem TokRun.mono {x : Str} {i i' : Nat} {ln ln' : Int} {t' : List Nat} (r : TokRun x i ln i' ln' t') : ln ≤ ln' := by
  induction r with
  | eof _ => exact Int.le_refl _
  | ws _ _ _ _ ih => exact Int.le_trans (nl_le _ _) ih
  | quote _ r => exact r.mono.1
  | plain _ _ _ _ _ r => exact Int.le_trans (nl_le _ _) r.mono.1
  | esc _ _ r => exact Int.le_trans (nl_le _ _) r.mono.1
noncomputable def TokPost (g : Heap) (L : Addr) (I : LexIds) (it q : Addr) (tq : Tok) (gs : Array GenState) (dr : Drawn) (os : OsState) (x : Str) (i i' : Nat) (ln' : Int) (t' : List Nat) (f : Flow) (s : Shared) : Prop :=
  match f with
  | .next | .cont => ∃ i2 ln2, i < i2 ∧ 0 ≤ ln2 ∧ TokRun x i2 ln2 i' ln' t' ∧ LexSt g L I it q tq gs dr os i2 ln2 [] s
  | .brk => False
  | .ret v => ∃ tt, v = .str ⟨t'.toArray⟩ tt ∧ LexSt g L I it q tq gs dr os i' ln' t' s
local macro_rules | `(tactic| walk_at "exec For Name Name cons nil") => `(tactic| with_unfolding_all (refine wpAny_For ?_))
local macro_rules | `(tactic| walk_at "pyIter ref") => `(tactic| refine hold ?_)
theorem tok_turn : ∀ {w : World} {dp u : Nat} {fr : Option (List Env)} {gd : Option (List Code)} {g : Heap} {mg mb : Str → Option Value} {p : Program} {loose : List Str} {mean : ExcName → Option Value} {L : Addr}
    {name qual : Str} {params : Arguments} {body : List Stmt} {scope : Scope} {dV kV doc pm cdv ct oc : Value} {an od : Option Addr} {osl : Array (Option Value)}
    (X' : (hd.heap_1 w.params).In g) (T' : Top p loose mean mg mb g) (hroom : dp < 400) (hu : u < 4000)
    (ho : (hd.heap_1 w.params).lookup 140 = some ⟨oc, od, .func (fnOf name qual params body scope dV kV doc pm an cdv ct), osl⟩)
    (x : Str) (I : LexIds) (O : LexOk w x I) (it q : Addr) (tq tt : Tok) (hif : ∀ p ∈ I.fix, @Ne Nat p.1 it) (ln : Int) (tl tp tc : Tok) (i c : Nat) (m : Str → Option Value) (h₁ : Heap) (gs : Array GenState) (dr : Drawn) (tk : Nat) (os : OsState)
    (hc : x.cps[i]? = some c) (hln : 0 ≤ ln ∧ ln ≤ 90000) (i' : Nat) (ln' : Int) (t' : List Nat) (hln' : ln' ≤ 90000) (ht' : t'.length ≤ 2000) (run : TokRun x i ln i' ln' t')
    (m1 : m (Str.ofString "token") = some (.str ⟨([] : List Nat).toArray⟩ tt)) (m2 : m (Str.ofString "fiter") = some (.ref it)) (m3 : m (Str.ofString "self") = some (.ref I.a))
    (F : Fr g L h₁ (fun y => if y = Str.ofString "ch" then some (.str ⟨#[c]⟩ tc) else m y)) (N : News g L h₁ ((it, callIt q tq) :: (q, methodObj (.ref 133) (.ref I.a)) :: I.all (nl ln c) tl (i + 1) tp)),
    wpAny (model PySem.Challenge.rw_re0035_01.row.prog w) (Around.deeper ⟨none, dp, fr, gd, u⟩ (envOf qual scope L 140 cdv)) (execs (forBody body) (envOf qual scope L 140 cdv)) (TokPost g L I it q tq gs dr os x i i' ln' t') (fun _ _ => False) ⟨h₁, gs, dr, tk, os⟩ := by
  k_fill
  intro w dp u fr gd g mg mb p loose mean L name qual params body scope dV kV doc pm cdv ct oc an od osl X' T' hroom hu ho x I O it q tq tt hif ln tl tp tc i c m h₁ gs dr tk os hc hln i' ln' t' hln' ht' run m1 m2 m3 F N
  have ho₂ := ho
  obtain ⟨q1, q2, q3, q4⟩ := fn_inj ho (by k_is)
  subst q1 q2 q3 q4
  clear ho
  conv in (execs _ _) => arg 1; whnf
  cases run with
  | eof h => exact absurd (Array.getElem?_eq_some_iff.mp hc).1 (by rw [h]; exact Nat.lt_irrefl _)
  | ws h hc8 hw r =>
    rw [hc] at h
    cases h
    have hws := ws_in hc8
    rw [hw] at hws
    k_steps
    (with_reducible rename News _ _ _ _ => N₂)
    (with_reducible rename Fr _ _ _ _ => F₂)
    exact ⟨i + 1, _, Nat.lt_succ_self _, nl_pos hln.1, r, _, _, _, _, _, _, rfl, F₂, N₂, m1, m2, m3⟩
  | quote h r =>
    rw [hc] at h
    have h9 : c = 34 := Option.some.inj h
    have hws := ws_in (c := c) (by omega)
    rw [show wsSign c = false by rw [h9]; rfl] at hws
    have b2 : ((⟨#[c]⟩ : Str) == Str.ofString "\"") = true := by rw [h9]; rfl
    have hnl : nl ln c = ln := by rw [h9]; rfl
    rw [hnl] at N
    k_steps
    unfold Hold
    (with_reducible rename News _ _ _ _ => N₂)
    (with_reducible rename Fr _ _ _ _ => F₂)
    refine iter_self (N₂.get (by k_mem)) rfl ?_
    refine codeAny_mono (quote_loop X' T' hroom hu ho₂ rfl rfl x I O it q tq hif (i + 1) ln [] gs dr os hln.1 i' ln' t' hln' ht' r _ ⟨_, _, _, _, _, _, rfl, F₂, N₂, m1, m2, m3⟩) ?_
    intro rr s' z
    rcases rr with e | f
    · exact False.elim z
    · cases f with
      | ret v => exact z
      | _ => exact False.elim z
  | plain h hc8 n0 n1 n2 r =>
    rw [hc] at h
    cases h
    have hws := ws_in hc8
    rw [n0] at hws
    have b1 : ((⟨#[c]⟩ : Str) == Str.ofString "\"") = false := sign_off n1
    have b2 : ((⟨#[c]⟩ : Str) == Str.ofString "\\") = false := sign_off n2
    have hlen : (⟨([] : List Nat).toArray⟩ : Str).length = 0 := rfl
    have hlen1 : (⟨#[c]⟩ : Str).length = 1 := rfl
    k_steps
    unfold Hold
    (with_reducible rename News _ _ _ _ => N₂)
    (with_reducible rename Fr _ _ _ _ => F₂)
    rw [push_sign] at F₂
    refine iter_self (N₂.get (by k_mem)) rfl ?_
    refine codeAny_mono (plain_loop X' T' hroom hu ho₂ rfl rfl x I O it q tq hif (i + 1) (nl ln c) [c] gs dr os (nl_pos hln.1) i' ln' t' hln' ht' r _ ⟨_, _, _, _, _, _, rfl, F₂, N₂, rfl, m2, m3⟩) ?_
    intro rr s' z
    rcases rr with e | f
    · exact False.elim z
    · cases f with
      | ret v => exact z
      | _ => exact False.elim z
  | esc h h2 r =>
    rename_i c2
    rw [hc] at h
    have h9 : c = 92 := Option.some.inj h
    have hws := ws_in (c := c) (by omega)
    rw [show wsSign c = false by rw [h9]; rfl] at hws
    have b1 : ((⟨#[c]⟩ : Str) == Str.ofString "\"") = false := sign_off (d := 34) (by omega)
    have b2 : ((⟨#[c]⟩ : Str) == Str.ofString "\\") = true := by rw [h9]; rfl
    have hlen : (⟨([] : List Nat).toArray⟩ : Str).length = 0 := rfl
    have hlen1 : (⟨#[c2]⟩ : Str).length = 1 := rfl
    have hlt1 : i + 1 < x.length := (Array.getElem?_eq_some_iff.mp h2).1
    have hnl : nl ln c = ln := by rw [h9]; rfl
    rw [hnl] at N
    k_steps
    unfold Hold
    (with_reducible rename News _ _ _ _ => N₁)
    (with_reducible rename Fr _ _ _ _ => F₁)
    show wpAny _ _ (call (.ref 133) [.ref I.a]) _ _ _
    refine read_char_c X' T' F₁.keep (by dsimp only; omega) (by dsimp only; omega) x I O ln tl (i + 1) tp (Nat.le_of_lt hlt1) ⟨hln.1, Int.le_trans hln.2 (by decide)⟩ (fun p hp => ⟨(N₁ p (.tail _ (.tail _ hp))).1, (N₁ p (.tail _ (.tail _ hp))).2.2⟩) ?_
    intro tr tl' tp' h₂ tk₂ hall hk
    obtain ⟨F₂, N₂⟩ := lex_over (pre := [(it, callIt q tq), (q, methodObj (.ref 133) (.ref I.a))]) F₁ N₁ (it_apart rfl N₁).1 hall hk
    have en : nextAt x (i + 1) = i + 2 := by unfold nextAt; rw [if_pos hlt1]
    have ec : (if signAt x (i + 1) = (⟨#[10]⟩ : Str) then ln + 1 else ln) = nl ln c2 := by
      rw [sign_some h2]
      unfold nl
      by_cases q : c2 = 10
      · rw [if_pos q, if_pos (by rw [q])]
      · rw [if_neg q, if_neg (by simpa using q)]
    rw [en, ec] at N₂
    rw [sign_some h2]
    clear F₁ N₁ hk hall
    k_steps
    unfold Hold
    (with_reducible rename News _ _ _ _ => N₃)
    (with_reducible rename Fr _ _ _ _ => F₃)
    rw [push_sign] at F₃
    refine iter_self (N₃.get (by k_mem)) rfl ?_
    refine codeAny_mono (plain_loop X' T' hroom hu ho₂ rfl rfl x I O it q tq hif (i + 2) (nl ln c2) [c2] gs dr os (nl_pos hln.1) i' ln' t' hln' ht' r _ ⟨_, _, _, _, _, _, rfl, F₃, N₃, rfl, m2, m3⟩) ?_
    intro rr s' z
    rcases rr with e | f
    · exact False.elim z
    · cases f with
      | ret v => exact z
      | _ => exact False.elim z
end Mine
end

end

section
open PySem PySem.W PyProof.Rows PySem.Calls
namespace Mine
theorem TokRun.le {x : Str} {i i' : Nat} {ln ln' : Int} {t' : List Nat} (r : TokRun x i ln i' ln' t') : i ≤ x.length := by
  cases r with
  | eof h => exact Nat.le_of_eq h
  | ws h _ _ _ => exact Nat.le_of_lt (Array.getElem?_eq_some_iff.mp h).1
  | quote h _ => exact Nat.le_of_lt (Array.getElem?_eq_some_iff.mp h).1
  | plain h _ _ _ _ _ => exact Nat.le_of_lt (Array.getElem?_eq_some_iff.mp h).1
  | esc h _ _ => exact Nat.le_of_lt (Array.getElem?_eq_some_iff.mp h).1
theorem TokRun.at_end {x : Str} {i i' : Nat} {ln ln' : Int} {t' : List Nat} (r : TokRun x i ln i' ln' t') (e : i = x.length) : i' = i ∧ ln' = ln ∧ t' = [] := by
  cases r with
  | eof h => exact ⟨rfl, rfl, rfl⟩
  | ws h _ _ _ => exact absurd (Array.getElem?_eq_some_iff.mp h).1 (by rw [e]; exact Nat.lt_irrefl _)
  | quote h _ => exact absurd (Array.getElem?_eq_some_iff.mp h).1 (by rw [e]; exact Nat.lt_irrefl _)
  | plain h _ _ _ _ _ => exact absurd (Array.getElem?_eq_some_iff.mp h).1 (by rw [e]; exact Nat.lt_irrefl _)
  | esc h _ _ => exact absurd (Array.getElem?_eq_some_iff.mp h).1 (by rw [e]; exact Nat.lt_irrefl _)
/-- the lexer's state past the end of its text -/
inductive LexEnd (g : Heap) (L : Addr) (I : LexIds) (it q : Addr) (gs : Array GenState) (dr : Drawn) (os : OsState) (i : Nat) (ln : Int) (s : Shared) : Prop
  | mk : ∀ m h tk tl tp tt, (s = ⟨h, gs, dr, tk, os⟩) → (Fr g L h m) → (News g L h ((it, callEnd) :: (q, methodObj (.ref 133) (.ref I.a)) :: I.all ln tl i tp)) → (m (Str.ofString "token") = some (.str ⟨([] : List Nat).toArray⟩ tt)) → LexEnd g L I it q gs dr os i ln s
/-- get_token's own loop -/
theorem tok_loop : ∀ {w : World} {dp u : Nat} {fr : Option (List Env)} {gd : Option (List Code)} {g : Heap} {mg mb : Str → Option Value} {p : Program} {loose : List Str} {mean : ExcName → Option Value} {L : Addr}
    {name qual : Str} {params : Arguments} {body : List Stmt} {scope : Scope} {dV kV doc pm cdv ct oc : Value} {an od : Option Addr} {osl : Array (Option Value)} {px : Pos}
    (X' : (hd.heap_1 w.params).In g) (T' : Top p loose mean mg mb g) (hroom : dp < 400) (hu : u < 4000)
    (ho : (hd.heap_1 w.params).lookup 140 = some ⟨oc, od, .func (fnOf name qual params body scope dV kV doc pm an cdv ct), osl⟩)
    (hx : (envOf qual scope L 140 cdv).kindOf (Str.ofString "ch") = some .local) (hp : (scope.kind == .class || (scope.kind == .module && L != (envOf qual scope L 140 cdv).globals)) = false)
    (x : Str) (I : LexIds) (O : LexOk w x I) (it q : Addr) (tq : Tok) (hif : ∀ p ∈ I.fix, @Ne Nat p.1 it) (i : Nat) (ln : Int) (gs : Array GenState) (dr : Drawn) (os : OsState)
    (hln : 0 ≤ ln) (i' : Nat) (ln' : Int) (t' : List Nat) (hln' : ln' ≤ 90000) (ht' : t'.length ≤ 2000) (run : TokRun x i ln i' ln' t') (s : Shared) (S : LexSt g L I it q tq gs dr os i ln [] s),
    codeAny (model PySem.Challenge.rw_re0035_01.row.prog w) (Around.deeper ⟨none, dp, fr, gd, u⟩ (envOf qual scope L 140 cdv)) (.forLoop (.Name (Str.ofString "ch") px) (.ref it) (forBody body) [] (envOf qual scope L 140 cdv))
      (fun r s' => match r with | .ok (.ret v) => ∃ tt, v = .str ⟨t'.toArray⟩ tt ∧ LexSt g L I it q tq gs dr os i' ln' t' s' | .ok .next => t' = [] ∧ LexEnd g L I it q gs dr os i' ln' s' | _ => False) s := by
  intro w dp u fr gd g mg mb p loose mean L name qual params body scope dV kV doc pm cdv ct oc an od osl px X' T' hroom hu ho hx hp x I O it q tq hif i ln gs dr os hln i' ln' t' hln' ht' run s S
  refine codeAny_forLoop (fun k s₁ => ∃ i ln, k = x.length - i ∧ 0 ≤ ln ∧ TokRun x i ln i' ln' t' ∧ LexSt g L I it q tq gs dr os i ln [] s₁) ?_ _ ⟨i, ln, rfl, hln, run, S⟩
  rintro k s₁ ⟨i, ln, rfl, hln, run, m, h, tk, tl, tp, tt, rfl, F, N, m1, m2, m3⟩
  have hle := run.le
  have hm := run.mono
  refine wpAny_mono (E := fun _ _ => False) ?_ (fun _ _ y => y) fun _ _ y => y.elim
  refine next_char X' T' (by show dp + 1 < 450; omega) (by show u + 3 < 4500; omega) x I O ln tl i tp it q tq hle ⟨hln, by omega⟩ hif F N ?_ ?_
  rotate_left
  · intro tl' tp' h' tk' he F' N'
    obtain ⟨e1, e2, e3⟩ := run.at_end he
    subst e1 e2 e3
    exact wpAny_execs_nil ⟨rfl, _, _, _, _, _, _, rfl, F', N', m1⟩
  · intro c tc tl' tp' h' tk' hc F' N'
    dsimp only
    refine wpAny_mono (E := fun _ _ => False) ?_ (fun _ _ y => y) fun _ _ y => y.elim
    refine wpAny_assign_Name (wpAny_storeName_local hx F'.ns (fun h₂ hns hsb => ?_) hp)
    refine wpAny_mono (tok_turn X' T' hroom hu ho x I O it q tq tt hif ln tl' tp' tc i c m h₂ gs dr _ os hc ⟨hln, by omega⟩ i' ln' t' hln' ht' run m1 m2 m3 (F'.set hns hsb) (N'.set hsb)) (fun f s₃ z => ?_) fun _ _ y => y.elim
    cases f with
    | next => obtain ⟨i2, ln2, a, b, c', d⟩ := z; exact ⟨_, by have := c'.le; omega, i2, ln2, rfl, b, c', d⟩
    | cont => obtain ⟨i2, ln2, a, b, c', d⟩ := z; exact ⟨_, by have := c'.le; omega, i2, ln2, rfl, b, c', d⟩
    | brk => exact z.elim
    | ret v => exact z
end Mine
end

section
open PySem PySem.W PyProof.Rows PySem.Calls
namespace Mine
theorem tok_size {g h : Heap} {L : Addr} {m : Str → Option Value} (F : Fr g L h m) : @Ne Nat L h.objs.size ∧ g.get? h.objs.size = none :=
  ⟨Nat.ne_of_lt F.ns.lt, by
    cases q : g.get? h.objs.size with
    | none => rfl
    | some o => exact absurd (Heap.lt_size (F.keep _ _ q)) (Nat.lt_irrefl _)⟩
theorem tok_push {g h : Heap} {L : Addr} {o : Obj} {news : List (Addr × Obj)} (ho : o.isFreed = false) (zL : @Ne Nat L h.objs.size) (zn : g.get? h.objs.size = none) (N : News g L h news) : News g L (h.push o) ((h.objs.size, o) :: news) := fun p hp => by
  rcases List.mem_cons.mp hp with rfl | hp
  · exact ⟨Heap.get?_push_size _ ho, Ne.symm zL, zn⟩
  · exact ⟨Heap.get?_push_of_some _ (N p hp).1, (N p hp).2⟩
local macro_rules | `(tactic| walk_at "exec For Name Name cons nil") => `(tactic| with_unfolding_all (refine wpAny_For ?_))
local macro_rules | `(tactic| walk_at "pyIter ref") => `(tactic| refine hold ?_)
local macro_rules | `(tactic| walk_at "truthy ref") => `(tactic| ((with_reducible rename News _ _ _ _ => aN); refine truthy_list_ints (vs := []) (ns := []) (aN.isList (items := #[]) (by k_mem)) .nil rfl ?_))
theorem get_token_c : ∀ {w : World} {dp u : Nat} {fr : Option (List Env)} {gd : Option (List Code)} {h₀ : Heap} {mg mb : Str → Option Value} {s : Shared} {p : Program} {loose : List Str} {mean : ExcName → Option Value}
    {Q E : Value → Shared → Prop} (X : (hd.heap_1 w.params).In h₀) (T : Top p loose mean mg mb h₀) (hk : ∀ b o, h₀.get? b = some o → s.heap.get? b = some o) (hroom : dp < 400) (hu : u < 4000)
    (x : Str) (I : LexIds) (O : LexOk w x I) (ln : Int) (tl : Tok) (i : Nat) (tp : Tok) (hln : 0 ≤ ln) (i' : Nat) (ln' : Int) (t' : List Nat) (hln' : ln' ≤ 90000) (ht' : t'.length ≤ 2000) (run : TokRun x i ln i' ln' t') (hm : ∀ p ∈ I.all ln tl i tp, s.heap.get? p.1 = some p.2 ∧ h₀.get? p.1 = none)
    (h : ∀ tt tl' tp' h' tk', (∀ p ∈ I.all ln' tl' i' tp', h'.get? p.1 = some p.2) → (∀ b o, b ≠ I.d → b ≠ I.AT → s.heap.get? b = some o → h'.get? b = some o) → Q (.str ⟨t'.toArray⟩ tt) { s with heap := h', toks := tk' }),
    wpAny (model PySem.Challenge.rw_re0035_01.row.prog w) ⟨none, dp, fr, gd, u⟩ (call (.ref 140) [.ref I.a]) Q E s := by
  k_fill
  intro w dp u fr gd h₀ mg mb s p loose mean Q E X T hk hroom hu x I O ln tl i tp hln i' ln' t' hln' ht' run hm h
  refine' enter (as := (I.all ln tl i tp).map (·.1)) (binds := [(Str.ofString "self", .ref I.a)]) X T hk ?kN ?k6 ?k7 ?k8 ?k9 ?kB ?c2 ?c3 ?c4 ?c5 ?_
  case kN =>
    intro b hb
    obtain ⟨p, hp, rfl⟩ := List.mem_map.mp hb
    exact (hm p hp).2
  case k6 => k_is
  case k7 => k_is
  case k8 => simp only [recursionLimit]; omega
  case k9 => exact BindsTo.of_eq rfl
  case c5 => decide
  case kB => exact locs rfl
  case c2 => exact rfl
  case c3 => exact rfl
  case c4 => exact rfl
  intro g L h₁ tk₁ hg hL F' hk₁ X' T'
  have N' : News g L h₁ (I.all ln tl i tp) := fun p hp => ⟨hk₁ _ _ (hm p hp).1, Nat.ne_of_lt (hL ▸ Heap.lt_size (hm p hp).1), hg ▸ hideAll_none _ (List.mem_map_of_mem hp)⟩
  have kp : ∀ {h' : Heap} {m' : Str → Option Value}, Fr g L h' m' → (∀ p ∈ I.rest, h'.get? p.1 = some p.2) → ∀ b o, b ≠ I.d → b ≠ I.AT → s.heap.get? b = some o → h'.get? b = some o := by
    intro h' m' FF NN b o n1 n2 e
    by_cases hb : b ∈ I.rest.map (·.1)
    · obtain ⟨p, hp, rfl⟩ := List.mem_map.mp hb
      have q := (hm p (.tail _ (.tail _ hp))).1
      rw [e] at q
      rw [Option.some.inj q]
      exact NN p hp
    · refine FF.keep b o (hg ▸ get_hide e ?_)
      intro hb'
      rcases List.mem_cons.mp hb' with e | hb'
      · exact n1 e
      rcases List.mem_cons.mp hb' with e | hb'
      · exact n2 e
      · exact hb hb'
  clear X T hk hk₁
  k_steps
  (with_reducible rename News _ _ _ _ => N₁)
  (with_reducible rename Fr _ _ _ _ => F₁)
  refine iter_two (N₁.get (by k_mem)) rfl ?_
  obtain ⟨zL, zn⟩ := tok_size F₁
  have hif : ∀ p ∈ I.fix, @Ne Nat p.1 _ := fun p hp => Nat.ne_of_lt (Heap.lt_size (N₁ p (by walk_at "my mem")).1)
  rename_i ha q h₂ l1
  have F₂ := F₁.push (callIt q (tk + 1 + 1 + 1))
  have N₂ := tok_push (o := callIt q (tk + 1 + 1 + 1)) rfl zL zn N₁
  clear F₁ N₁ l1
  generalize h₂.push (callIt q (tk + 1 + 1 + 1)) = h₃ at *
  generalize h₂.objs.size = it at *
  k_steps
  unfold Hold
  (with_reducible rename News _ _ _ _ => N₁)
  (with_reducible rename Fr _ _ _ _ => F₁)
  have ho := fn_at (K := hd.heap_1 w.params) (f := 140) (by k_is)
  refine iter_self (N₁.get (by k_mem)) rfl ?_
  refine codeAny_mono (tok_loop X' T' hroom hu ho rfl rfl x I O it q _ hif i ln s.gens s.drawn s.os hln i' ln' t' hln' ht' run _ ⟨_, _, _, _, _, _, rfl, F₁, N₁, rfl, rfl, rfl⟩) ?_
  clear F₁ N₁
  intro r s' z
  rcases r with e | f
  · exact False.elim z
  · cases f with
    | ret v =>
      obtain ⟨tt, rfl, m, h₄, tk₄, tl', tp', tt', rfl, F, N, _⟩ := z
      exact h tt tl' tp' h₄ tk₄ (fun p hp => (N p (.tail _ (.tail _ hp))).1) (kp F fun p hp => (N p (.tail _ (.tail _ (.tail _ (.tail _ hp))))).1)
    | next =>
      obtain ⟨rfl, m, h₄, tk₄, tl', tp', tt', rfl, F, N, m1⟩ := z
      dsimp only
      k_steps
      (with_reducible rename News _ _ _ _ => NN)
      (with_reducible rename Fr _ _ _ _ => FF)
      exact h tt' tl' tp' _ _ (fun p hp => (NN p (.tail _ (.tail _ hp))).1) (kp FF fun p hp => (NN p (.tail _ (.tail _ (.tail _ (.tail _ hp))))).1)
    | brk => exact False.elim z
    | cont => exact False.elim z
end Mine
end

end

section
open PySem PySem.W PyProof.Rows PySem.Calls
namespace Mine
noncomputable def nc (c : Nat) : Nat := if c = 10 then 1 else 0
theorem nl_nc (ln : Int) (c : Nat) : nl ln c = ln + nc c := by unfold nl nc; split <;> simp
noncomputable def quoteL : Nat → List Nat → Option (Nat × Nat × List Nat)
  | 0, _ => none
  | _ + 1, [] => none
  | f + 1, c :: r => if c = 34 then some (1, 0, []) else if c = 92 then (match r with
      | [] => none
      | c2 :: r2 => (quoteL f r2).map fun z => (z.1 + 2, z.2.1 + nc c2, c2 :: z.2.2)) else (quoteL f r).map fun z => (z.1 + 1, z.2.1 + nc c, c :: z.2.2)
noncomputable def plainL : Nat → List Nat → Option (Nat × Nat × List Nat)
  | 0, _ => none
  | _ + 1, [] => none
  | f + 1, c :: r => if 128 ≤ c then none else if wsSign c = true then some (1, nc c, []) else if c = 92 then (match r with
      | [] => none
      | c2 :: r2 => (plainL f r2).map fun z => (z.1 + 2, z.2.1 + nc c2, c2 :: z.2.2)) else (plainL f r).map fun z => (z.1 + 1, z.2.1 + nc c, c :: z.2.2)
noncomputable def tokL : Nat → List Nat → Option (Nat × Nat × List Nat)
  | 0, _ => none
  | _ + 1, [] => none
  | f + 1, c :: r => if 128 ≤ c then none else if wsSign c = true then (tokL f r).map fun z => (z.1 + 1, z.2.1 + nc c, z.2.2) else if c = 34 then (quoteL f r).map fun z => (z.1 + 1, z.2.1, z.2.2) else if c = 92 then (match r with
      | [] => none
      | c2 :: r2 => (plainL f r2).map fun z => (z.1 + 2, z.2.1 + nc c2, c2 :: z.2.2)) else (plainL f r).map fun z => (z.1 + 1, z.2.1 + nc c, c :: z.2.2)
theorem quoteL_le (f : Nat) : ∀ (l : List Nat) (k d : Nat) (u : List Nat), quoteL f l = some (k, d, u) → k ≤ l.length := by
  induction f with
  | zero => intro l k d u h; cases h
  | succ f ih =>
    intro l k d u h
    cases l with
    | nil => cases h
    | cons c r =>
      unfold quoteL at h
      split at h
      · cases h; simp
      split at h
      · split at h
        · cases h
        · obtain ⟨⟨k', d', u'⟩, e, q⟩ := Option.map_eq_some_iff.mp h
          cases q
          have := ih _ _ _ _ e
          simp only [List.length_cons]; omega
      · obtain ⟨⟨k', d', u'⟩, e, q⟩ := Option.map_eq_some_iff.mp h
        cases q
        have := ih _ _ _ _ e
        simp only [List.length_cons]; omega
theorem plainL_le (f : Nat) : ∀ (l : List Nat) (k d : Nat) (u : List Nat), plainL f l = some (k, d, u) → k ≤ l.length := by
  induction f with
  | zero => intro l k d u h; cases h
  | succ f ih =>
    intro l k d u h
    cases l with
    | nil => cases h
    | cons c r =>
      unfold plainL at h
      split at h
      · cases h
      split at h
      · cases h; simp
      split at h
      · split at h
        · cases h
        · obtain ⟨⟨k', d', u'⟩, e, q⟩ := Option.map_eq_some_iff.mp h
          cases q
          have := ih _ _ _ _ e
          simp only [List.length_cons]; omega
      · obtain ⟨⟨k', d', u'⟩, e, q⟩ := Option.map_eq_some_iff.mp h
        cases q
        have := ih _ _ _ _ e
        simp only [List.length_cons]; omega
theorem tokL_le (f : Nat) : ∀ (l : List Nat) (k d : Nat) (u : List Nat), tokL f l = some (k, d, u) → k ≤ l.length := by
  induction f with
  | zero => intro l k d u h; cases h
  | succ f ih =>
    intro l k d u h
    cases l with
    | nil => cases h
    | cons c r =>
      unfold tokL at h
      split at h
      · cases h
      split at h
      · obtain ⟨⟨k', d', u'⟩, e, q⟩ := Option.map_eq_some_iff.mp h
        cases q
        have := ih _ _ _ _ e
        simp only [List.length_cons]; omega
      split at h
      · obtain ⟨⟨k', d', u'⟩, e, q⟩ := Option.map_eq_some_iff.mp h
        cases q
        have := quoteL_le _ _ _ _ _ e
        simp only [List.length_cons]; omega
      split at h
      · split at h
        · cases h
        · obtain ⟨⟨k', d', u'⟩, e, q⟩ := Option.map_eq_some_iff.mp h
          cases q
          have := plainL_le _ _ _ _ _ e
          simp only [List.length_cons]; omega
      · obtain ⟨⟨k', d', u'⟩, e, q⟩ := Option.map_eq_some_iff.mp h
        cases q
        have := plainL_le _ _ _ _ _ e
        simp only [List.length_cons]; omega
theorem at0 {x : Str} {pre r : List Nat} {c : Nat} (h : x.cps.toList = pre ++ (c :: r)) : x.cps[pre.length]? = some c := by
  rw [← Array.getElem?_toList, h]; simp
theorem at1 {x : Str} {pre r : List Nat} {c c2 : Nat} (h : x.cps.toList = pre ++ (c :: c2 :: r)) : x.cps[pre.length + 1]? = some c2 := by
  rw [← Array.getElem?_toList, h]; simp
theorem quoteL_sound (f : Nat) : ∀ (l : List Nat) (k d : Nat) (u : List Nat), quoteL f l = some (k, d, u) → ∀ (x : Str) (pre post : List Nat) (ln : Int) (t : List Nat), x.cps.toList = pre ++ (l ++ post) → QuoteRun x pre.length ln t (pre.length + k) (ln + d) (t ++ u) := by
  induction f with
  | zero => intro l k d u h; cases h
  | succ f ih =>
    intro l k d u h x pre post ln t hx
    cases l with
    | nil => cases h
    | cons c r =>
      unfold quoteL at h
      by_cases h34 : c = 34
      · rw [if_pos h34] at h
        cases h
        have := QuoteRun.stop (x := x) (ln := ln) (t := t) ((at0 hx).trans (by rw [h34]))
        simpa using this
      rw [if_neg h34] at h
      by_cases h92 : c = 92
      · rw [if_pos h92] at h
        cases r with
        | nil => cases h
        | cons c2 r2 =>
          dsimp only at h
          obtain ⟨⟨k', d', u'⟩, e, q⟩ := Option.map_eq_some_iff.mp h
          cases q
          have := ih r2 k' d' u' e x (pre ++ [c, c2]) post (nl ln c2) (t ++ [c2]) (by rw [hx]; simp)
          have z := QuoteRun.esc (x := x) (ln := ln) (t := t) ((at0 hx).trans (by rw [h92])) (at1 hx) (i' := pre.length + (k' + 2)) (ln' := ln + ((d' + nc c2 : Nat) : Int)) (t' := t ++ c2 :: u') (by
            rw [nl_nc] at this ⊢
            have e1 : (pre ++ [c, c2]).length = pre.length + 2 := by simp
            have e2 : (pre ++ [c, c2]).length + k' = pre.length + (k' + 2) := by simp; omega
            have e3 : ln + (nc c2 : Int) + (d' : Int) = ln + ((d' + nc c2 : Nat) : Int) := by omega
            have e4 : t ++ [c2] ++ u' = t ++ c2 :: u' := by simp
            rw [e2, e1, e3, e4] at this
            exact this)
          exact z
      · rw [if_neg h92] at h
        obtain ⟨⟨k', d', u'⟩, e, q⟩ := Option.map_eq_some_iff.mp h
        cases q
        have := ih r k' d' u' e x (pre ++ [c]) post (nl ln c) (t ++ [c]) (by rw [hx]; simp)
        exact QuoteRun.plain (x := x) (ln := ln) (t := t) (at0 hx) h34 h92 (i' := pre.length + (k' + 1)) (ln' := ln + ((d' + nc c : Nat) : Int)) (t' := t ++ c :: u') (by
            rw [nl_nc] at this ⊢
            have e1 : (pre ++ [c]).length = pre.length + 1 := by simp
            have e2 : (pre ++ [c]).length + k' = pre.length + (k' + 1) := by simp; omega
            have e3 : ln + (nc c : Int) + (d' : Int) = ln + ((d' + nc c : Nat) : Int) := by omega
            have e4 : t ++ [c] ++ u' = t ++ c :: u' := by simp
            rw [e2, e1, e3, e4] at this
            exact this)
theorem plainL_sound (f : Nat) : ∀ (l : List Nat) (k d : Nat) (u : List Nat), plainL f l = some (k, d, u) → ∀ (x : Str) (pre post : List Nat) (ln : Int) (t : List Nat), x.cps.toList = pre ++ (l ++ post) → PlainRun x pre.length ln t (pre.length + k) (ln + d) (t ++ u) := by
  induction f with
  | zero => intro l k d u h; cases h
  | succ f ih =>
    intro l k d u h x pre post ln t hx
    cases l with
    | nil => cases h
    | cons c r =>
      unfold plainL at h
      by_cases h128 : 128 ≤ c
      · rw [if_pos h128] at h; cases h
      rw [if_neg h128] at h
      by_cases hw : wsSign c = true
      · rw [if_pos hw] at h
        cases h
        have := PlainRun.stop (x := x) (ln := ln) (t := t) (at0 hx) (Nat.lt_of_not_le h128) hw
        rw [nl_nc] at this
        simpa using this
      rw [if_neg hw] at h
      by_cases h92 : c = 92
      · rw [if_pos h92] at h
        cases r with
        | nil => cases h
        | cons c2 r2 =>
          dsimp only at h
          obtain ⟨⟨k', d', u'⟩, e, q⟩ := Option.map_eq_some_iff.mp h
          cases q
          have := ih r2 k' d' u' e x (pre ++ [c, c2]) post (nl ln c2) (t ++ [c2]) (by rw [hx]; simp)
          exact PlainRun.esc (x := x) (ln := ln) (t := t) ((at0 hx).trans (by rw [h92])) (at1 hx) (i' := pre.length + (k' + 2)) (ln' := ln + ((d' + nc c2 : Nat) : Int)) (t' := t ++ c2 :: u') (by
            rw [nl_nc] at this ⊢
            have e1 : (pre ++ [c, c2]).length = pre.length + 2 := by simp
            have e2 : (pre ++ [c, c2]).length + k' = pre.length + (k' + 2) := by simp; omega
            have e3 : ln + (nc c2 : Int) + (d' : Int) = ln + ((d' + nc c2 : Nat) : Int) := by omega
            have e4 : t ++ [c2] ++ u' = t ++ c2 :: u' := by simp
            rw [e2, e1, e3, e4] at this
            exact this)
      · rw [if_neg h92] at h
        obtain ⟨⟨k', d', u'⟩, e, q⟩ := Option.map_eq_some_iff.mp h
        cases q
        have := ih r k' d' u' e x (pre ++ [c]) post (nl ln c) (t ++ [c]) (by rw [hx]; simp)
        exact PlainRun.plain (x := x) (ln := ln) (t := t) (at0 hx) (Nat.lt_of_not_le h128) (by simpa using hw) h92 (i' := pre.length + (k' + 1)) (ln' := ln + ((d' + nc c : Nat) : Int)) (t' := t ++ c :: u') (by
            rw [nl_nc] at this ⊢
            have e1 : (pre ++ [c]).length = pre.length + 1 := by simp
            have e2 : (pre ++ [c]).length + k' = pre.length + (k' + 1) := by simp; omega
            have e3 : ln + (nc c : Int) + (d' : Int) = ln + ((d' + nc c : Nat) : Int) := by omega
            have e4 : t ++ [c] ++ u' = t ++ c :: u' := by simp
            rw [e2, e1, e3, e4] at this
            exact this)
theorem tokL_sound (f : Nat) : ∀ (l : List Nat) (k d : Nat) (u : List Nat), tokL f l = some (k, d, u) → ∀ (x : Str) (pre post : List Nat) (ln : Int), x.cps.toList = pre ++ (l ++ post) → TokRun x pre.length ln (pre.length + k) (ln + d) u := by
  induction f with
  | zero => intro l k d u h; cases h
  | succ f ih =>
    intro l k d u h x pre post ln hx
    cases l with
    | nil => cases h
    | cons c r =>
      unfold tokL at h
      by_cases h128 : 128 ≤ c
      · rw [if_pos h128] at h; cases h
      rw [if_neg h128] at h
      have hx1 : x.cps.toList = (pre ++ [c]) ++ (r ++ post) := by rw [hx]; simp
      have e1 : (pre ++ [c]).length = pre.length + 1 := by simp
      by_cases hw : wsSign c = true
      · rw [if_pos hw] at h
        obtain ⟨⟨k', d', u'⟩, e, q⟩ := Option.map_eq_some_iff.mp h
        cases q
        have := ih r k' d' u' e x (pre ++ [c]) post (nl ln c) hx1
        have z : TokRun x pre.length ln (pre.length + (k' + 1)) (ln + ((d' + nc c : Nat) : Int)) u' := TokRun.ws (at0 hx) (Nat.lt_of_not_le h128) hw (by
          rw [nl_nc] at this ⊢
          have e2 : (pre ++ [c]).length + k' = pre.length + (k' + 1) := by simp; omega
          have e3 : ln + (nc c : Int) + (d' : Int) = ln + ((d' + nc c : Nat) : Int) := by omega
          rw [e2, e1, e3] at this
          exact this)
        exact z
      rw [if_neg hw] at h
      by_cases h34 : c = 34
      · rw [if_pos h34] at h
        obtain ⟨⟨k', d', u'⟩, e, q⟩ := Option.map_eq_some_iff.mp h
        cases q
        have := quoteL_sound f r k' d' u' e x (pre ++ [c]) post ln [] hx1
        have z : TokRun x pre.length ln (pre.length + (k' + 1)) (ln + d') u' := TokRun.quote ((at0 hx).trans (by rw [h34])) (by
          have e2 : (pre ++ [c]).length + k' = pre.length + (k' + 1) := by simp; omega
          rw [e2, e1, List.nil_append] at this
          exact this)
        exact z
      rw [if_neg h34] at h
      by_cases h92 : c = 92
      · rw [if_pos h92] at h
        cases r with
        | nil => cases h
        | cons c2 r2 =>
          dsimp only at h
          obtain ⟨⟨k', d', u'⟩, e, q⟩ := Option.map_eq_some_iff.mp h
          cases q
          have := plainL_sound f r2 k' d' u' e x (pre ++ [c, c2]) post (nl ln c2) [c2] (by rw [hx]; simp)
          have z : TokRun x pre.length ln (pre.length + (k' + 2)) (ln + ((d' + nc c2 : Nat) : Int)) (c2 :: u') := TokRun.esc ((at0 hx).trans (by rw [h92])) (at1 hx) (by
            rw [nl_nc] at this ⊢
            have e1 : (pre ++ [c, c2]).length = pre.length + 2 := by simp
            have e2 : (pre ++ [c, c2]).length + k' = pre.length + (k' + 2) := by simp; omega
            have e3 : ln + (nc c2 : Int) + (d' : Int) = ln + ((d' + nc c2 : Nat) : Int) := by omega
            rw [e2, e1, e3] at this
            exact this)
          exact z
      · rw [if_neg h92] at h
        obtain ⟨⟨k', d', u'⟩, e, q⟩ := Option.map_eq_some_iff.mp h
        cases q
        have := plainL_sound f r k' d' u' e x (pre ++ [c]) post (nl ln c) [c] hx1
        have z : TokRun x pre.length ln (pre.length + (k' + 1)) (ln + ((d' + nc c : Nat) : Int)) (c :: u') := TokRun.plain (at0 hx) (Nat.lt_of_not_le h128) (by simpa using hw) h34 h92 (by
          rw [nl_nc] at this ⊢
          have e2 : (pre ++ [c]).length + k' = pre.length + (k' + 1) := by simp; omega
          have e3 : ln + (nc c : Int) + (d' : Int) = ln + ((d' + nc c : Nat) : Int) := by omega
          rw [e2, e1, e3] at this
          exact this)
        exact z
/-- the law's words, out of their numbers -/
noncomputable def bitsOf : Nat → Nat → List Bool
  | 0, _ => []
  | f + 1, code => if code ≤ 1 then [] else (code % 2 == 1) :: bitsOf f (code / 2)
noncomputable def markN (n : Nat) : Nat := theMarks.getD (n / 15 % 5) 0
noncomputable def wordN (n : Nat) : List Nat := textOf (markN n) (bitsOf 4 (n % 15 + 1))
/-- the line that the law writes for a number -/
noncomputable def escN (n : Nat) : Bool := n / 75 == 1 && !(wordN n).isEmpty
noncomputable def lineN (n : Nat) : List Nat :=
  if escN n then (wordN n).flatMap (fun s => [92, s]) ++ [10] else 34 :: ((wordN n).flatMap (fun s => if s = 34 ∨ s = 92 then [92, s] else [s]) ++ [34, 10])
noncomputable def pend (b : Bool) : List Nat := if b then [10] else []
noncomputable def pn (b : Bool) : Nat := if b then 1 else 0
noncomputable def lineOk (b : Bool) (n : Nat) : Bool :=
  match tokL 16 (pend b ++ lineN n) with
  | none => false
  | some (k, d, u) => u == wordN n && (pend b ++ lineN n).drop k == pend (!escN n) && d + pn (!escN n) == pn b + 1 && decide (k ≤ 16) && decide ((wordN n).length ≤ 3) && decide ((lineN n).length ≤ 9) && decide (markN n ∈ theMarks) && decide (bitsOf 4 (n % 15 + 1) ∈ stalkWords)
theorem lines_ok : ((List.range 150).all fun n => lineOk true n && lineOk false n) = true := by decide +kernel
theorem wordN_stalk {n : Nat} (hn : n < 150) : StalkW (markN n) (wordN n) := by
  have h := List.all_eq_true.mp lines_ok n (List.mem_range.mpr hn)
  have h := (Bool.and_eq_true_iff.mp h).1
  unfold lineOk at h
  split at h
  · cases h
  · simp only [Bool.and_eq_true, decide_eq_true_eq] at h
    exact ⟨h.1.2, _, h.2, rfl⟩
theorem line_len {n : Nat} (hn : n < 150) : (lineN n).length ≤ 9 := by
  have h := List.all_eq_true.mp lines_ok n (List.mem_range.mpr hn)
  have h := (Bool.and_eq_true_iff.mp h).1
  unfold lineOk at h
  split at h
  · cases h
  · simp only [Bool.and_eq_true, decide_eq_true_eq] at h
    exact h.1.1.2
theorem line_step (b : Bool) {n : Nat} (hn : n < 150) {x : Str} {pre post : List Nat} (ln : Int) (hx : x.cps.toList = pre ++ (pend b ++ (lineN n ++ post))) :
    ∃ pre' d, TokRun x pre.length ln pre'.length (ln + (d : Nat)) (wordN n) ∧ x.cps.toList = pre' ++ (pend (!escN n) ++ post) ∧ d + pn (!escN n) = pn b + 1 := by
  have h := List.all_eq_true.mp lines_ok n (List.mem_range.mpr hn)
  have h : lineOk b n = true := by
    cases b
    · exact (Bool.and_eq_true_iff.mp h).2
    · exact (Bool.and_eq_true_iff.mp h).1
  unfold lineOk at h
  split at h
  · cases h
  rename_i k d u e
  simp only [Bool.and_eq_true, decide_eq_true_eq, beq_iff_eq] at h
  obtain ⟨⟨⟨⟨⟨⟨⟨h1, h2⟩, h3⟩, h4⟩, h5⟩, h6⟩, h7⟩, h8⟩ := h
  subst h1
  have hx' : x.cps.toList = pre ++ ((pend b ++ lineN n) ++ post) := by rw [hx, List.append_assoc]
  have r := tokL_sound 16 _ _ _ _ e x pre post ln hx'
  have el : (pre ++ (pend b ++ lineN n).take k).length = pre.length + k := by
    have lk : k ≤ (pend b ++ lineN n).length := tokL_le 16 _ _ _ _ e
    rw [List.length_append, List.length_take, Nat.min_eq_left lk]
  refine ⟨pre ++ (pend b ++ lineN n).take k, d, by rw [el]; exact r, ?_, h3⟩
  rw [hx', ← h2]
  conv => lhs; rw [← List.take_append_drop k (pend b ++ lineN n)]
  simp only [List.append_assoc]
/-- the law's text lexes back to its words -/
inductive TextLexes (x : Str) (a b c : Nat) : Prop
  | mk : x.length ≤ 27 → ∀ i1 l1 i2 l2 i3 l3, 0 ≤ l1 → 0 ≤ l2 → 0 ≤ l3 → l1 ≤ 100 → l2 ≤ 100 → l3 ≤ 100 → TokRun x 0 1 i1 l1 (wordN a) → TokRun x i1 l1 i2 l2 (wordN b) → TokRun x i2 l2 i3 l3 (wordN c) → TokRun x i3 l3 x.length 4 [] → TextLexes x a b c
theorem text_lexes {a b c : Nat} (ha : a < 150) (hb : b < 150) (hc : c < 150) {x : Str} (hx : x.cps.toList = lineN a ++ (lineN b ++ lineN c)) :
    TextLexes x a b c := by
  obtain ⟨p1, d1, r1, x1, q1⟩ := line_step false ha (pre := []) (post := lineN b ++ lineN c) 1 hx
  obtain ⟨p2, d2, r2, x2, q2⟩ := line_step (!escN a) hb (pre := p1) (post := lineN c) (1 + (d1 : Nat)) x1
  obtain ⟨p3, d3, r3, x3, q3⟩ := line_step (!escN b) hc (pre := p2) (post := []) (1 + (d1 : Nat) + (d2 : Nat)) (by rw [x2, List.append_nil])
  have pn1 : ∀ b, pn b ≤ 1 := fun b => by cases b <;> decide
  have b1 := pn1 (!escN a)
  have b2 := pn1 (!escN b)
  have b3 := pn1 (!escN c)
  have b0 : pn false = 0 := rfl
  have hl : x.length = x.cps.toList.length := by simp [Str.length]
  refine ⟨?_, _, _, _, _, _, _, by omega, by omega, by omega, by omega, by omega, by omega, r1, r2, r3, ?_⟩
  · have z1 := line_len ha
    have z2 := line_len hb
    have z3 := line_len hc
    rw [hl, hx, List.length_append, List.length_append]
    omega
  · rw [List.append_nil] at x3
    cases e : (!escN c) with
    | false =>
      rw [e] at x3 q3
      have p0 : pn false = 0 := rfl
      have el : p3.length = x.length := by rw [hl, x3]; simp [pend]
      have e4 : (1 : Int) + (d1 : Nat) + (d2 : Nat) + (d3 : Nat) = 4 := by omega
      rw [el, e4]
      exact TokRun.eof rfl
    | true =>
      rw [e] at x3 q3
      have p0 : pn true = 1 := rfl
      have el : p3.length + 1 = x.length := by rw [hl, x3]; simp [pend]
      refine TokRun.ws (c := 10) (at0 (r := []) x3) (by decide) (by decide) ?_
      rw [nl_nc, el]
      have e4 : (1 : Int) + (d1 : Nat) + (d2 : Nat) + (d3 : Nat) + (nc 10 : Nat) = 4 := by have : nc 10 = 1 := rfl; omega
      rw [e4]
      exact TokRun.eof rfl
end Mine
end

section
open PySem PySem.W PyProof.Rows PySem.Calls
namespace Mine
/-- what stands behind the first for -/
noncomputable def afterFor (l : List Stmt) : List Stmt := behind 1 l
/-- the table of the wins: its entries, their keys within R -/
noncomputable def WinTab (prog : Program) (w : World) (o : Obj) (xs : List (List Int × Addr × Value)) (R : List (Addr × Obj)) : Prop :=
  o.ExactDict ∧ (∃ es ep, o.data = .dict es ep ∧ es.toList = xs.map (entryOfKey (tupleKind (intKind prog w)))) ∧ (xs.map (·.1)).Nodup ∧ ∀ x ∈ xs, ∃ ok, (x.2.1, ok) ∈ R ∧ TupKeyObj (intKind prog w) x.1 ok
theorem WinTab.at {prog : Program} {w : World} {o : Obj} {xs : List (List Int × Addr × Value)} {R : List (Addr × Obj)} {h : Heap} {D : Addr} (T : WinTab prog w o xs R) (ho : h.get? D = some o) (hR : ∀ p ∈ R, h.get? p.1 = some p.2) : h.DictOfH (tupleKind (intKind prog w)) D xs := by
  obtain ⟨hc, ⟨es, ep, hd, he⟩, hn, hk⟩ := T
  exact ⟨o, es, ep, ho, hc, hd, he, fun x hx => let ⟨_, hm, t⟩ := hk x hx; t.key (hR _ hm), hn⟩
/-- one edge tried -/
noncomputable def tryB (f : Nat → Nat → Nat → Nat → Bool) (W : Nat → Str) (a b c mv k e : Nat) : Bool :=
  (((W k).cps.toList.getD e 0 == 32) == (mv == 1)) && !(f (if k = 0 then e else a) (if k = 1 then e else b) (if k = 2 then e else c) (1 - mv))
inductive EdgePost (g : Heap) (L lh D : Addr) (oh lo oD : Obj) (R : List (Addr × Obj)) (gs : Array GenState) (dr : Drawn) (os : OsState) (m : Str → Option Value) (good : Bool) (f : Flow) (s' : Shared) : Prop
  | mk : (f = .next) → ∀ m' h' tk', (s' = ⟨h', gs, dr, tk', os⟩) → (Fr g L h' m') → (News g L h' ((L + 1 + 1 + 1, oh) :: (lh, lo) :: (D, oD) :: R)) → (m' (Str.ofString "good") = some (.bool good)) → (∀ y, y ≠ Str.ofString "after" → y ≠ Str.ofString "good" → m' y = m y) → EdgePost g L lh D oh lo oD R gs dr os m good f s'
theorem wins_item {prog : Program} {w : World} {A : Around} {E : Value → Shared → Prop} {s : Shared} {value slice : Expr} {D T U : Addr} {o ok : Obj} {xs : List (List Int × Addr × Value)} {R : List (Addr × Obj)} {ks : List Int} {v : Value} {Q : Value → Shared → Prop} (hu : A.in1.units < cLine) (Wn : WinTab prog w o xs R) (ho : s.heap.get? D = some o) (hR : ∀ p ∈ R, s.heap.get? p.1 = some p.2) (hT : s.heap.get? T = some ok) (tk : TupKeyObj (intKind prog w) ks ok) (hv : atKey xs ks = some (U, v))
    (h : ∀ t, Q v { s with toks := t })
    (hs : subscripted slice false (.ref D) (.ref T) = operate [.ref D, .ref T] (getItem (.ref D) (.ref T)) := by with_unfolding_all rfl) (hg : ∀ r, letTemporaryGo value (.ref D) r = pure () := by intro _; with_unfolding_all rfl) :
    wpAny (model prog w) A (subscriptTail value slice (.ref D) (.ref T)) Q E s := by
  have hd := Wn.at ho hR
  exact subscriptTail_builtin hd.typeIs slot_dict_getitem.lookup (wpAny_getItem_heap (knd := tupleKind (intKind prog w)) hu (tk.key hT) hd hv (h _)) hs hg
theorem item_at0 {x : Str} {e : Nat} (h : e < x.length) : Txt.item x e = ⟨#[x.cps.toList.getD e 0]⟩ := by
  obtain ⟨⟨l⟩⟩ := x
  have h' : e < l.length := h
  have h2 : seqIndex? (e : Int) l.length = some e := by
    unfold seqIndex?
    dsimp only
    rw [if_neg (Int.not_lt.mpr (Int.natCast_nonneg e))]
    rw [if_pos (by rw [Bool.and_eq_true, decide_eq_true_eq, decide_eq_true_eq]; exact ⟨Int.natCast_nonneg e, by exact_mod_cast h'⟩)]
    simp
  simp [Txt.item, Txt.charAt, h2, Str.length, h']
theorem blank_at {x : Str} {e : Nat} (h : e < x.length) : (Txt.item x e == Str.ofString " ") = (x.cps.toList.getD e 0 == 32) := by
  rw [item_at0 h, show Str.ofString " " = ⟨#[32]⟩ from rfl]
  generalize x.cps.toList.getD e 0 = c
  rw [Bool.eq_iff_iff]
  simp
local macro_rules | `(tactic| walk_at "subscriptTail Name Tuple ref ref") => `(tactic| refine hold ?_)
local macro_rules | `(tactic| walk_at "subscriptTail Name Tuple") => `(tactic| refine hold ?_)
theorem edge_turn : ∀ {w : World} {dp u : Nat} {fr : Option (List Env)} {gd : Option (List Code)} {g : Heap} {mg mb : Str → Option Value} {p : Program} {loose : List Str} {mean : ExcName → Option Value} {L : Addr}
    {name qual : Str} {params : Arguments} {body : List Stmt} {scope : Scope} {dV kV doc pm cdv ct oc : Value} {an od : Option Addr} {osl : Array (Option Value)}
    (X' : (hd.heap_1 w.params).In g) (T' : Top p loose mean mg mb g) (hroom : dp < 400) (hu : u < 4000)
    (ho : (hd.heap_1 w.params).lookup 178 = some ⟨oc, od, .func (fnOf name qual params body scope dV kV doc pm an cdv ct), osl⟩)
    (lh D : Addr) (oh oD : Obj) (nh : Nat) (W : Nat → Str) (tw : Nat → Tok) (R : List (Addr × Obj)) (xs : List (List Int × Addr × Value)) (dh : oh.data = .cell (some (.ref lh))) (Wn : WinTab PySem.Challenge.rw_re0035_01.row.prog w oD xs R) (hD : (D == sysModules) = false)
    (a b c : Nat) (ta tb tc : Tok) (k e : Nat) (tkk te : Tok) (mv : Nat) (tv : Tok) (good : Bool) (hk : @LT.lt Nat _ k 3) (hmv : mv = 0 ∨ mv = 1) (he : @LT.lt Nat _ e (W k).length) (hW : ∀ j, j < 3 → (W j).length ≤ 3)
    (f : Nat → Nat → Nat → Nat → Bool) (hval : ∃ T, atKey xs [((if k = 0 then e else a : Nat) : Int), ((if k = 1 then e else b : Nat) : Int), ((if k = 2 then e else c : Nat) : Int), ((1 - mv : Nat) : Int)] = some (T, .bool (f (if k = 0 then e else a) (if k = 1 then e else b) (if k = 2 then e else c) (1 - mv))))
    (gs : Array GenState) (dr : Drawn) (os : OsState) (m : Str → Option Value) (h : Heap) (tk : Nat)
    (m1 : m (Str.ofString "a") = some (.int a ta)) (m2 : m (Str.ofString "b") = some (.int b tb)) (m3 : m (Str.ofString "c") = some (.int c tc)) (m4 : m (Str.ofString "mover") = some (.int mv tv)) (m5 : m (Str.ofString "k") = some (.int k tkk)) (m6 : m (Str.ofString "edge") = some (.int e te)) (m7 : m (Str.ofString "good") = some (.bool good)) (m8 : m (Str.ofString "wins") = some (.ref D))
    (F : Fr g L h m) (N : News g L h ((L + 1 + 1 + 1, oh) :: (lh, heardO W tw nh) :: (D, oD) :: R)),
    wpAny (model PySem.Challenge.rw_re0035_01.row.prog w) (Around.deeper ⟨none, dp, fr, gd, u⟩ (envOfC qual scope L 178 cdv)) (execs (forBody (forBody (forBody (forBody (forBody (forBody (afterFor body))))))) (envOfC qual scope L 178 cdv))
      (EdgePost g L lh D oh (heardO W tw nh) oD R gs dr os m (good || tryB f W a b c mv k e)) (fun _ _ => False) ⟨h, gs, dr, tk, os⟩ := by
  k_fill
  intro w dp u fr gd g mg mb p loose mean L name qual params body scope dV kV doc pm cdv ct oc an od osl X' T' hroom hu ho lh D oh oD nh W tw R xs dh Wn hD a b c ta tb tc k e tkk te mv tv good hk hmv he hW f hval gs dr os m h tk m1 m2 m3 m4 m5 m6 m7 m8 F N
  obtain ⟨q1, q2, q3, q4⟩ := fn_inj ho (by k_is)
  subst q1 q2 q3 q4
  clear ho
  conv in (execs _ _) => arg 1; whnf
  have hW0 := hW 0 (by decide)
  have hW1 := hW 1 (by decide)
  have hW2 := hW 2 (by decide)
  clear hW
  cases good with
  | true =>
    k_steps
    exact ⟨rfl, m, _, _, rfl, F, N, m7, fun y _ _ => rfl⟩
  | false =>
  refine hideQ fun Q' hQ' => ?_
  obtain ⟨U, hval⟩ := hval
  have hsub : ((1 - mv : Nat) : Int) = 1 - (mv : Int) := by rcases hmv with rfl | rfl <;> rfl
  have hm1 : (mv == 1) = ((mv : Int) == 1) := by rcases hmv with rfl | rfl <;> rfl
  rcases lt3 (i := k) (by omega) with rfl | rfl | rfl
  · have m5 : m (Str.ofString "k") = some (.int 0 tkk) := m5
    have hv : atKey xs [(e : Int), (b : Int), (c : Int), 1 - (mv : Int)] = some (U, .bool (f e b c (1 - mv))) := by rw [← hsub]; exact hval
    k_steps
    · unfold Hold
      rename _ = true => hb
      (with_reducible rename News _ _ _ _ => N₁)
      (with_reducible rename Fr _ _ _ _ => F₁)
      rw [blank_at he] at hb
      refine wins_item (ks := [(e : Int), (b : Int), (c : Int), 1 - (mv : Int)]) (by simp only [units_deeper]; unfold cLine; omega) Wn (N₁.get (by k_mem)) (fun p hp => N₁.get (.tail _ (.tail _ (.tail _ (.tail _ (.tail _ hp)))))) (N₁.get (.head _)) ⟨rfl, _, _, rfl, .cons (by simp [intKind, Value.isInt]) (.cons (by simp [intKind, Value.isInt]) (.cons (by simp [intKind, Value.isInt]) (.cons (by simp [intKind, Value.isInt]) .nil)))⟩ hv ?_
      intro t
      k_steps
      (with_reducible rename News _ _ _ _ => N₂)
      (with_reducible rename Fr _ _ _ _ => F₂)
      refine hQ'.of _ _ ⟨rfl, _, _, _, rfl, F₂, news_sub N₂ (fun p hp => .tail _ (.tail _ hp)), ?_, fun y n1 n2 => (if_neg n2).trans (if_neg n1)⟩
      rw [if_pos rfl]
      unfold tryB
      rw [hm1, hb]
      simp
    · rename _ = false => hb
      rw [blank_at he] at hb
      refine hQ'.of _ _ ⟨rfl, m, _, _, rfl, F, N, ?_, fun y _ _ => rfl⟩
      unfold tryB
      rw [hm1, hb]
      exact m7
  · have m5 : m (Str.ofString "k") = some (.int 1 tkk) := m5
    have hv : atKey xs [(a : Int), (e : Int), (c : Int), 1 - (mv : Int)] = some (U, .bool (f a e c (1 - mv))) := by rw [← hsub]; exact hval
    k_steps
    · unfold Hold
      rename _ = true => hb
      (with_reducible rename News _ _ _ _ => N₁)
      (with_reducible rename Fr _ _ _ _ => F₁)
      rw [blank_at he] at hb
      refine wins_item (ks := [(a : Int), (e : Int), (c : Int), 1 - (mv : Int)]) (by simp only [units_deeper]; unfold cLine; omega) Wn (N₁.get (by k_mem)) (fun p hp => N₁.get (.tail _ (.tail _ (.tail _ (.tail _ (.tail _ hp)))))) (N₁.get (.head _)) ⟨rfl, _, _, rfl, .cons (by simp [intKind, Value.isInt]) (.cons (by simp [intKind, Value.isInt]) (.cons (by simp [intKind, Value.isInt]) (.cons (by simp [intKind, Value.isInt]) .nil)))⟩ hv ?_
      intro t
      k_steps
      (with_reducible rename News _ _ _ _ => N₂)
      (with_reducible rename Fr _ _ _ _ => F₂)
      refine hQ'.of _ _ ⟨rfl, _, _, _, rfl, F₂, news_sub N₂ (fun p hp => .tail _ (.tail _ hp)), ?_, fun y n1 n2 => (if_neg n2).trans (if_neg n1)⟩
      rw [if_pos rfl]
      unfold tryB
      rw [hm1, hb]
      simp
    · rename _ = false => hb
      rw [blank_at he] at hb
      refine hQ'.of _ _ ⟨rfl, m, _, _, rfl, F, N, ?_, fun y _ _ => rfl⟩
      unfold tryB
      rw [hm1, hb]
      exact m7
  · have m5 : m (Str.ofString "k") = some (.int 2 tkk) := m5
    have hv : atKey xs [(a : Int), (b : Int), (e : Int), 1 - (mv : Int)] = some (U, .bool (f a b e (1 - mv))) := by rw [← hsub]; exact hval
    k_steps
    · unfold Hold
      rename _ = true => hb
      (with_reducible rename News _ _ _ _ => N₁)
      (with_reducible rename Fr _ _ _ _ => F₁)
      rw [blank_at he] at hb
      refine wins_item (ks := [(a : Int), (b : Int), (e : Int), 1 - (mv : Int)]) (by simp only [units_deeper]; unfold cLine; omega) Wn (N₁.get (by k_mem)) (fun p hp => N₁.get (.tail _ (.tail _ (.tail _ (.tail _ (.tail _ hp)))))) (N₁.get (.head _)) ⟨rfl, _, _, rfl, .cons (by simp [intKind, Value.isInt]) (.cons (by simp [intKind, Value.isInt]) (.cons (by simp [intKind, Value.isInt]) (.cons (by simp [intKind, Value.isInt]) .nil)))⟩ hv ?_
      intro t
      k_steps
      (with_reducible rename News _ _ _ _ => N₂)
      (with_reducible rename Fr _ _ _ _ => F₂)
      refine hQ'.of _ _ ⟨rfl, _, _, _, rfl, F₂, news_sub N₂ (fun p hp => .tail _ (.tail _ hp)), ?_, fun y n1 n2 => (if_neg n2).trans (if_neg n1)⟩
      rw [if_pos rfl]
      unfold tryB
      rw [hm1, hb]
      simp
    · rename _ = false => hb
      rw [blank_at he] at hb
      refine hQ'.of _ _ ⟨rfl, m, _, _, rfl, F, N, ?_, fun y _ _ => rfl⟩
      unfold tryB
      rw [hm1, hb]
      exact m7
end Mine
end

section
open PySem PySem.W PyProof.Rows PySem.Calls
local macro_rules | `(tactic| walk_at "pyIter ref") => `(tactic| refine hold ?_)

section
open PySem PySem.W PyProof.Rows PySem.Calls
namespace Mine
local macro_rules | `(tactic| walk_at "no such key 0") => `(tactic| fail)
inductive HeightPost (g : Heap) (L lh D : Addr) (oh lo oD : Obj) (R : List (Addr × Obj)) (gs : Array GenState) (dr : Drawn) (os : OsState) (m : Str → Option Value) (good : Bool) (f : Flow) (s' : Shared) : Prop
  | mk : (f = .next) → ∀ m' h' tk', (s' = ⟨h', gs, dr, tk', os⟩) → (Fr g L h' m') → (News g L h' ((L + 1 + 1 + 1, oh) :: (lh, lo) :: (D, oD) :: R)) → (m' (Str.ofString "good") = some (.bool good)) → (∀ y, y ≠ Str.ofString "after" → y ≠ Str.ofString "good" → y ≠ Str.ofString "edge" → m' y = m y) → HeightPost g L lh D oh lo oD R gs dr os m good f s'
theorem any_succ (p : Nat → Bool) (n : Nat) : (List.range (n + 1)).any p = ((List.range n).any p || p n) := by
  rw [List.range_succ, List.any_append]; simp
theorem WinTab.more {prog : Program} {w : World} {o : Obj} {xs : List (List Int × Addr × Value)} {R R' : List (Addr × Obj)} (T : WinTab prog w o xs R) (h : ∀ p ∈ R, p ∈ R') : WinTab prog w o xs R' :=
  ⟨T.1, T.2.1, T.2.2.1, fun x hx => let ⟨ok, a, b⟩ := T.2.2.2 x hx; ⟨ok, h _ a, b⟩⟩
local macro_rules | `(tactic| walk_at "exec For Name Call cons nil") => `(tactic| with_unfolding_all (refine wpAny_For ?_))
theorem height_loop : ∀ {w : World} {dp u : Nat} {fr : Option (List Env)} {gd : Option (List Code)} {g : Heap} {mg mb : Str → Option Value} {p : Program} {loose : List Str} {mean : ExcName → Option Value} {L : Addr}
    {name qual : Str} {params : Arguments} {body : List Stmt} {scope : Scope} {dV kV doc pm cdv ct oc : Value} {an od : Option Addr} {osl : Array (Option Value)}
    (X' : (hd.heap_1 w.params).In g) (T' : Top p loose mean mg mb g) (hroom : dp < 400) (hu : u < 4000)
    (ho : (hd.heap_1 w.params).lookup 178 = some ⟨oc, od, .func (fnOf name qual params body scope dV kV doc pm an cdv ct), osl⟩)
    (lh D : Addr) (oh oD : Obj) (nh : Nat) (W : Nat → Str) (tw : Nat → Tok) (R : List (Addr × Obj)) (xs : List (List Int × Addr × Value)) (dh : oh.data = .cell (some (.ref lh))) (Wn : WinTab PySem.Challenge.rw_re0035_01.row.prog w oD xs R) (hD : (D == sysModules) = false)
    (a b c : Nat) (ta tb tc : Tok) (k hh : Nat) (tkk te : Tok) (mv : Nat) (tv : Tok) (good : Bool) (hk : @LT.lt Nat _ k 3) (hmv : mv = 0 ∨ mv = 1) (he : @LE.le Nat _ hh (W k).length) (hW : ∀ j, j < 3 → (W j).length ≤ 3)
    (f : Nat → Nat → Nat → Nat → Bool) (hval : ∀ e, e < hh → ∃ T, atKey xs [((if k = 0 then e else a : Nat) : Int), ((if k = 1 then e else b : Nat) : Int), ((if k = 2 then e else c : Nat) : Int), ((1 - mv : Nat) : Int)] = some (T, .bool (f (if k = 0 then e else a) (if k = 1 then e else b) (if k = 2 then e else c) (1 - mv))))
    (gs : Array GenState) (dr : Drawn) (os : OsState) (m : Str → Option Value) (h : Heap) (tk : Nat)
    (m1 : m (Str.ofString "a") = some (.int a ta)) (m2 : m (Str.ofString "b") = some (.int b tb)) (m3 : m (Str.ofString "c") = some (.int c tc)) (m4 : m (Str.ofString "mover") = some (.int mv tv)) (m5 : m (Str.ofString "k") = some (.int k tkk)) (m6 : m (Str.ofString "height") = some (.int hh te)) (m7 : m (Str.ofString "good") = some (.bool good)) (m8 : m (Str.ofString "wins") = some (.ref D))
    (F : Fr g L h m) (N : News g L h ((L + 1 + 1 + 1, oh) :: (lh, heardO W tw nh) :: (D, oD) :: R)),
    wpAny (model PySem.Challenge.rw_re0035_01.row.prog w) (Around.deeper ⟨none, dp, fr, gd, u⟩ (envOfC qual scope L 178 cdv)) (execs (forBody (forBody (forBody (forBody (forBody (afterFor body)))))) (envOfC qual scope L 178 cdv))
      (HeightPost g L lh D oh (heardO W tw nh) oD R gs dr os m (good || (List.range hh).any (tryB f W a b c mv k))) (fun _ _ => False) ⟨h, gs, dr, tk, os⟩ := by
  k_fill
  intro w dp u fr gd g mg mb p loose mean L name qual params body scope dV kV doc pm cdv ct oc an od osl X' T' hroom hu ho lh D oh oD nh W tw R xs dh Wn hD a b c ta tb tc k hh tkk te mv tv good hk hmv he hW f hval gs dr os m h tk m1 m2 m3 m4 m5 m6 m7 m8 F N
  have ho₂ := ho
  obtain ⟨q1, q2, q3, q4⟩ := fn_inj ho (by k_is)
  subst q1 q2 q3 q4
  clear ho
  have hl3 : hh ≤ 3 := Nat.le_trans he (hW k hk)
  conv in (execs _ _) => arg 1; whnf
  k_steps
  unfold Hold
  (with_reducible rename IsRange _ _ _ _ _ _ _ _ => hR)
  (with_reducible rename News _ _ _ _ => N₁)
  (with_reducible rename Fr _ _ _ _ => F₁)
  refine for_range (news := (L + 1 + 1 + 1, oh) :: (lh, heardO W tw nh) :: (D, oD) :: R) (J := fun i m' news gs' => gs' = gs ∧ news = (L + 1 + 1 + 1, oh) :: (lh, heardO W tw nh) :: (D, oD) :: R ∧ m' (Str.ofString "good") = some (.bool (good || (List.range i).any (tryB f W a b c mv k))) ∧ ∀ y, y ≠ Str.ofString "after" → y ≠ Str.ofString "good" → y ≠ Str.ofString "edge" → m' y = m y) rfl rfl rfl F₁ N₁ hR (by omega) ⟨rfl, rfl, by simpa using m7, fun _ _ _ _ => rfl⟩ ?_ ?_
  · rintro i t I oI m₁ news₁ gs' h₁ tk₁ hi ⟨rfl, rfl, g1, g2⟩ hI hI' F₂ N₂
    refine wpAny_mono (edge_turn X' T' hroom hu ho₂ lh D oh oD nh W tw ((I, oI) :: R) xs dh (Wn.more fun p hp => .tail _ hp) hD a b c ta tb tc k i tkk t mv tv (good || (List.range i).any (tryB f W a b c mv k)) hk hmv (Nat.lt_of_lt_of_le hi he) hW f (hval i hi) gs' dr os _ h₁ tk₁ ?_ ?_ ?_ ?_ ?_ ?_ ?_ ?_ F₂ (news_sub N₂ ?_)) ?_ fun _ _ y => y
    · exact (if_neg (by decide)).trans ((g2 _ (by decide) (by decide) (by decide)).trans m1)
    · exact (if_neg (by decide)).trans ((g2 _ (by decide) (by decide) (by decide)).trans m2)
    · exact (if_neg (by decide)).trans ((g2 _ (by decide) (by decide) (by decide)).trans m3)
    · exact (if_neg (by decide)).trans ((g2 _ (by decide) (by decide) (by decide)).trans m4)
    · exact (if_neg (by decide)).trans ((g2 _ (by decide) (by decide) (by decide)).trans m5)
    · exact if_pos rfl
    · exact (if_neg (by decide)).trans g1
    · exact (if_neg (by decide)).trans ((g2 _ (by decide) (by decide) (by decide)).trans m8)
    · intro p hp
      rcases List.mem_cons.mp hp with rfl | hp
      · exact .tail _ (.head _)
      rcases List.mem_cons.mp hp with rfl | hp
      · exact .tail _ (.tail _ (.head _))
      rcases List.mem_cons.mp hp with rfl | hp
      · exact .tail _ (.tail _ (.tail _ (.head _)))
      rcases List.mem_cons.mp hp with rfl | hp
      · exact .head _
      · exact .tail _ (.tail _ (.tail _ (.tail _ hp)))
    · rintro f' s' ⟨rfl, m₃, h₃, tk₃, rfl, F₃, N₃, e1, e2⟩
      refine ⟨m₃, _, gs', h₃, tk₃, rfl, F₃, news_sub N₃ ?_, hI', (fun _ hb => nomatch hb), rfl, rfl, ?_, fun y n1 n2 n3 => (e2 y n1 n2).trans ((if_neg n3).trans (g2 y n1 n2 n3))⟩
      · intro p hp
        rcases List.mem_cons.mp hp with rfl | hp
        · exact .tail _ (.tail _ (.tail _ (.head _)))
        rcases List.mem_cons.mp hp with rfl | hp
        · exact .head _
        rcases List.mem_cons.mp hp with rfl | hp
        · exact .tail _ (.head _)
        rcases List.mem_cons.mp hp with rfl | hp
        · exact .tail _ (.tail _ (.head _))
        · exact .tail _ (.tail _ (.tail _ (.tail _ hp)))
      · rw [e1, any_succ, Bool.or_assoc]
  · rintro m₁ news₁ gs' h₁ tk₁ ⟨rfl, rfl, g1, g2⟩ F₂ N₂
    k_steps
    exact ⟨rfl, m₁, _, _, rfl, F₂, N₂, g1, g2⟩
end Mine
end

section
open PySem PySem.W PyProof.Rows PySem.Calls
namespace Mine
local macro_rules | `(tactic| walk_at "no such key 0") => `(tactic| fail)
noncomputable def hts (a b c k : Nat) : Nat := if k = 0 then a else if k = 1 then b else c
theorem atKey_map {xs : List (List Int × Addr × Value)} {k : List Int} {v : Value} : ∀ k', atKey (xs.map (putAt k v)) k' = if k' = k then (atKey xs k').map (fun q => (q.1, v)) else atKey xs k' := by
  intro k'
  unfold atKey
  induction xs with
  | nil => simp
  | cons x r ih =>
    rw [List.map_cons, List.find?_cons, List.find?_cons]
    have e1 : (putAt k v x).1 = x.1 := by unfold putAt; split <;> rfl
    rw [e1]
    by_cases hx : x.1 = k'
    · rw [decide_eq_true hx]
      by_cases hk : k' = k
      · rw [if_pos hk]
        simp [putAt, hx, hk]
      · rw [if_neg hk]
        have : ¬ x.1 = k := fun e => hk (hx.symm.trans e)
        simp [putAt, this]
    · rw [decide_eq_false hx]
      exact ih
theorem atKey_stored {xs : List (List Int × Addr × Value)} {k : List Int} {a : Addr} {v : Value} : (∃ T, atKey (storedH xs k a v) k = some (T, v)) ∧ ∀ k', k' ≠ k → atKey (storedH xs k a v) k' = atKey xs k' := by
  cases h : atKey xs k with
  | none =>
    rw [storedH_new h]
    refine ⟨⟨a, ?_⟩, fun k' hk => ?_⟩
    · unfold atKey at h ⊢
      rw [List.find?_append]
      have h' := Option.map_eq_none_iff.mp h
      rw [h']
      simp
    · unfold atKey
      rw [List.find?_append]
      have : (List.find? (fun x => decide (x.1 = k')) [(k, a, v)]) = none := by simp [Ne.symm hk]
      rw [this, Option.or_none]
  | some p =>
    rw [storedH_old h]
    refine ⟨⟨p.1, ?_⟩, fun k' hk => ?_⟩
    · rw [atKey_map, if_pos rfl, h]; rfl
    · rw [atKey_map, if_neg hk]
theorem storedH_len {xs : List (List Int × Addr × Value)} {k : List Int} {a : Addr} {v : Value} : (storedH xs k a v).length ≤ xs.length + 1 := by
  unfold storedH
  split <;> simp
theorem wins_store {prog : Program} {w : World} {A : Around} {E : Value → Shared → Prop} {s : Shared} {D T : Addr} {o ok : Obj} {xs : List (List Int × Addr × Value)} {R R' : List (Addr × Obj)} {ks : List Int} {v : Value} {Q : Unit → Shared → Prop} {g : Heap} {L : Addr} {m : Str → Option Value} {pre : List (Addr × Obj)} (hu : A.in1.units < cLine) (Wn : WinTab prog w o xs R) (hRR : ∀ p ∈ R, p ∈ R') (F : Fr g L s.heap m) (N : News g L s.heap (pre ++ (D, o) :: R'))
    (hR : ∀ p ∈ R', @Ne Nat p.1 D) (hpre : ∀ p ∈ pre, @Ne Nat p.1 D) (hT : (T, ok) ∈ R') (tk : TupKeyObj (intKind prog w) ks ok) (hx : xs.length ≤ 1000)
    (h : ∀ h' o' t, Fr g L h' m → News g L h' (pre ++ (D, o') :: R') → WinTab prog w o' (storedH xs ks T v) ((T, ok) :: R) → Q () { s with heap := h', toks := t }) :
    wpAny (model prog w) A (setItem (.ref D) (.ref T) v) Q E s := by
  have z := N (D, o) (List.mem_append_right _ (.head _))
  have hd := (Wn.more hRR).at z.1 (fun p hp => (N p (List.mem_append_right _ (.tail _ hp))).1)
  refine wpAny_setItem_heap (hsz := by rw [sizeLine_eq]; omega) (knd := tupleKind (intKind prog w)) hu (tk.key (N _ (List.mem_append_right _ (.tail _ hT))).1) hd fun h' hm' hs => ?_
  obtain ⟨o', es', ep', ho', hc', hd', he', _, hn'⟩ := hm'
  refine h h' o' _ (F.change hs z.2.1 z.2.2) (fun p hp => ?_) ⟨hc', ⟨es', ep', hd', he'⟩, hn', fun x hx => ?_⟩
  · rcases List.mem_append.mp hp with hp | hp
    · have q := N p (List.mem_append_left _ hp)
      exact ⟨hs.extBut _ _ (hpre p hp) q.1, q.2⟩
    rcases List.mem_cons.mp hp with rfl | hp
    · exact ⟨ho', z.2⟩
    · have q := N p (List.mem_append_right _ (.tail _ hp))
      exact ⟨hs.extBut _ _ (hR p hp) q.1, q.2⟩
  · rcases mem_storedH hx with ⟨y, hy, e1, e2⟩ | ⟨e1, e2⟩
    · obtain ⟨oky, hmk, t⟩ := Wn.2.2.2 y hy
      exact ⟨oky, by rw [e2]; exact .tail _ hmk, by rw [e1]; exact t⟩
    · exact ⟨ok, by rw [e2]; exact .head _, by rw [e1]; exact tk⟩
/-- what a part of the wins loops leaves: the table holds all of Done -/
inductive WinsPost (prog : Program) (w : World) (g : Heap) (L lh D : Addr) (oh lo : Obj) (R KK : List (Addr × Obj)) (cnt : Nat) (Done : Nat → Nat → Nat → Nat → Prop) (fv : Nat → Nat → Nat → Nat → Bool) (gs : Array GenState) (dr : Drawn) (os : OsState) (m : Str → Option Value) (names : List Str) (f : Flow) (s' : Shared) : Prop
  | mk : (f = .next) → ∀ m' h' tk' oD' xs' K, (s' = ⟨h', gs, dr, tk', os⟩) → (Fr g L h' m') → (News g L h' ((L + 1 + 1 + 1, oh) :: (lh, lo) :: (D, oD') :: (K ++ R))) → (WinTab prog w oD' xs' (K ++ KK)) → ((∀ q ∈ K, @Ne Nat q.1 D ∧ ∀ p ∈ R, @Ne Nat p.1 q.1)) → (xs'.length ≤ cnt) → ((∀ a b c mv, Done a b c mv → ∃ T, atKey xs' [(a : Int), (b : Int), (c : Int), (mv : Int)] = some (T, .bool (fv a b c mv)))) → (∀ y, y ∉ names → m' y = m y) → WinsPost prog w g L lh D oh lo R KK cnt Done fv gs dr os m names f s'
theorem allLt_to {d : Addr} : ∀ {l : List (Addr × Obj)}, AllLt d l → ∀ p ∈ l, @LT.lt Nat _ p.1 d
  | [], _, p, hp => nomatch hp
  | q :: r, h, p, hp => by
    rcases List.mem_cons.mp hp with rfl | hp
    · exact h.1
    · exact allLt_to h.2 p hp
theorem swap_first {a b c x : Addr × Obj} (R R' : List (Addr × Obj)) (hR : R' = R := by rfl) : ∀ p ∈ a :: b :: c :: x :: R, p ∈ x :: a :: b :: c :: R' := by
  intro p hp
  subst hR
  simp only [List.mem_cons] at hp ⊢
  rcases hp with h | h | h | h | h <;> simp [h]
theorem swap_back {a b c x : Addr × Obj} (R R' : List (Addr × Obj)) (hR : R' = R := by rfl) : ∀ p ∈ x :: a :: b :: c :: R, p ∈ a :: b :: c :: x :: R' := by
  intro p hp
  subst hR
  simp only [List.mem_cons] at hp ⊢
  rcases hp with h | h | h | h | h <;> simp [h]
local macro_rules | `(tactic| walk_at "exec For Tuple Tuple cons nil") => `(tactic| with_unfolding_all (refine wpAny_For ?_))
local macro_rules | `(tactic| walk_at "exec For Tuple") => `(tactic| with_unfolding_all (refine wpAny_For ?_))
inductive MoverJ (L : Addr) (lh : Addr) (D : Addr) (TT : Addr) (A0 : Addr) (A1 : Addr) (A2 : Addr) (oh : Obj) (W : Nat → Str) (tw : Nat → Tok) (nh : Nat) (tk : Nat) (ta : Tok) (tb : Tok) (tc : Tok) (R : List (Addr × Obj)) (f : Nat → Nat → Nat → Nat → Bool) (a : Nat) (b : Nat) (c : Nat) (mv : Nat) (oD : Obj) (gs : Array GenState) (m : Str → Option Value) (i : Nat) (m' : Str → Option Value) (news : List (Addr × Obj)) (gs' : Array GenState) : Prop
  | mk : (gs = gs') → (news = (L + 1 + 1 + 1, oh) :: (lh, heardO W tw nh) :: (D, oD) :: ((TT, tupR3 A0 A1 A2) :: (A2, tupI2 2 (tk + 1 + 1 + 1) c tc) :: (A1, tupI2 1 (tk + 1 + 1) b tb) :: (A0, tupI2 0 (tk + 1) a ta) :: R)) → (m' (Str.ofString "good") = some (.bool ((List.range i).any fun k => (List.range (hts a b c k)).any (tryB f W a b c mv k)))) → (∀ y, y ∉ [Str.ofString "after", Str.ofString "good", Str.ofString "edge", Str.ofString "k", Str.ofString "height"] → m' y = m y) → MoverJ L lh D TT A0 A1 A2 oh W tw nh tk ta tb tc R f a b c mv oD gs m i m' news gs'
theorem mover_turn : ∀ {w : World} {dp u : Nat} {fr : Option (List Env)} {gd : Option (List Code)} {g : Heap} {mg mb : Str → Option Value} {p : Program} {loose : List Str} {mean : ExcName → Option Value} {L : Addr}
    {name qual : Str} {params : Arguments} {body : List Stmt} {scope : Scope} {dV kV doc pm cdv ct oc : Value} {an od : Option Addr} {osl : Array (Option Value)}
    (X' : (hd.heap_1 w.params).In g) (T' : Top p loose mean mg mb g) (hroom : dp < 400) (hu : u < 4000)
    (ho : (hd.heap_1 w.params).lookup 178 = some ⟨oc, od, .func (fnOf name qual params body scope dV kV doc pm an cdv ct), osl⟩)
    (lh D : Addr) (oh oD : Obj) (nh : Nat) (W : Nat → Str) (tw : Nat → Tok) (R KK : List (Addr × Obj)) (hKK : ∀ p ∈ KK, p ∈ R) (xs : List (List Int × Addr × Value)) (dh : oh.data = .cell (some (.ref lh))) (Wn : WinTab PySem.Challenge.rw_re0035_01.row.prog w oD xs KK) (hD : (D == sysModules) = false)
    (hx : xs.length ≤ 1000) (aD1 : @Ne Nat (L + 1 + 1 + 1) D) (aD2 : @Ne Nat lh D) (aR : ∀ p ∈ R, @Ne Nat p.1 D)
    (a b c : Nat) (ta tb tc : Tok) (mv : Nat) (tv : Tok) (hmv : mv = 0 ∨ mv = 1) (ha : @LE.le Nat _ a (W 0).length) (hb : @LE.le Nat _ b (W 1).length) (hc : @LE.le Nat _ c (W 2).length) (hW : ∀ j, j < 3 → (W j).length ≤ 3)
    (f : Nat → Nat → Nat → Nat → Bool) (Done : Nat → Nat → Nat → Nat → Prop) (hdone : ∀ a b c mv, Done a b c mv → ∃ T, atKey xs [(a : Int), (b : Int), (c : Int), (mv : Int)] = some (T, .bool (f a b c mv)))
    (hA : ∀ e, e < a → Done e b c (1 - mv)) (hB : ∀ e, e < b → Done a e c (1 - mv)) (hC : ∀ e, e < c → Done a b e (1 - mv))
    (told : Int) (tt : Tok) (hf : f a b c mv = if mv = 0 then decide (0 < told) else decide (told < 0)) (hgood : ((List.range 3).any fun k => (List.range (hts a b c k)).any (tryB f W a b c mv k)) = f a b c mv)
    (gs : Array GenState) (dr : Drawn) (os : OsState) (m : Str → Option Value) (h : Heap) (tk : Nat)
    (m1 : m (Str.ofString "a") = some (.int a ta)) (m2 : m (Str.ofString "b") = some (.int b tb)) (m3 : m (Str.ofString "c") = some (.int c tc)) (m4 : m (Str.ofString "mover") = some (.int mv tv)) (m5 : m (Str.ofString "told") = some (.int told tt)) (m8 : m (Str.ofString "wins") = some (.ref D))
    (F : Fr g L h m) (N : News g L h ((L + 1 + 1 + 1, oh) :: (lh, heardO W tw nh) :: (D, oD) :: R)),
    wpAny (model PySem.Challenge.rw_re0035_01.row.prog w) (Around.deeper ⟨none, dp, fr, gd, u⟩ (envOfC qual scope L 178 cdv)) (execs (forBody (forBody (forBody (forBody (afterFor body))))) (envOfC qual scope L 178 cdv))
      (WinsPost PySem.Challenge.rw_re0035_01.row.prog w g L lh D oh (heardO W tw nh) R KK (xs.length + 1) (fun a' b' c' mv' => Done a' b' c' mv' ∨ (a' = a ∧ b' = b ∧ c' = c ∧ mv' = mv)) f gs dr os m [Str.ofString "after", Str.ofString "good", Str.ofString "edge", Str.ofString "k", Str.ofString "height"]) (fun _ _ => False) ⟨h, gs, dr, tk, os⟩ := by
  k_fill
  intro w dp u fr gd g mg mb p loose mean L name qual params body scope dV kV doc pm cdv ct oc an od osl X' T' hroom hu ho lh D oh oD nh W tw R KK hKK xs dh Wn hD hx aD1 aD2 aR a b c ta tb tc mv tv hmv ha hb hc hW f Done hdone hA hB hC told tt hf hgood gs dr os m h tk m1 m2 m3 m4 m5 m8 F N
  have ho₂ := ho
  obtain ⟨q1, q2, q3, q4⟩ := fn_inj ho (by k_is)
  subst q1 q2 q3 q4
  clear ho
  conv in (execs _ _) => arg 1; whnf
  refine hideQ fun Q' hQ' => ?_
  k_steps
  unfold Hold
  (with_reducible rename News _ _ _ _ => N₁)
  (with_reducible rename Fr _ _ _ _ => F₁)
  rename_i A0 x0 l0 A1 x1 l1 A2 x2 l2 TT x3 l3
  refine for_tuple (items := #[.ref A0, .ref A1, .ref A2]) (J := MoverJ L lh D TT A0 A1 A2 oh W tw nh tk ta tb tc R f a b c mv oD gs m) rfl F₁ (news_sub N₁ ?_) ⟨_, N₁.get (.head _), rfl, _, rfl⟩ ⟨rfl, rfl, rfl, ?_⟩ ?_ ?_
  · intro p hp
    rcases List.mem_cons.mp hp with rfl | hp
    · k_mem
    rcases List.mem_cons.mp hp with rfl | hp
    · k_mem
    rcases List.mem_cons.mp hp with rfl | hp
    · k_mem
    rcases List.mem_cons.mp hp with rfl | hp
    · k_mem
    rcases List.mem_cons.mp hp with rfl | hp
    · k_mem
    rcases List.mem_cons.mp hp with rfl | hp
    · k_mem
    rcases List.mem_cons.mp hp with rfl | hp
    · k_mem
    · exact .tail _ (.tail _ (.tail _ (.tail _ (.tail _ (.tail _ (.tail _ hp))))))
  · intro y hy
    exact if_neg fun q => hy (by rw [q]; simp)
  · intro i v I oI m₁ news₁ gs' h₁ tk₁ hi HJ hI hI' hT F₂ N₂
    obtain ⟨rfl, rfl, g1, g2⟩ := HJ
    clear F₁ N₁
    have b1 := (g2 _ (by decide)).trans m1
    have b2 := (g2 _ (by decide)).trans m2
    have b3 := (g2 _ (by decide)).trans m3
    have b4 := (g2 _ (by decide)).trans m4
    have b8 := (g2 _ (by decide)).trans m8
    have hi3 : i < 3 := by have := (Array.getElem?_eq_some_iff.mp hi).1; simpa using this
    rcases lt3 (i := i) (by omega) with rfl | rfl | rfl
    · obtain rfl : v = .ref A0 := by simpa using hi.symm
      have hTT := N₂.get (a := TT) (o := tupR3 A0 A1 A2) (by k_mem)
      repeat (fail_if_success (with_reducible show wpAny _ _ (execs _ _) _ _ _)); walk1
      refine hideQ fun Q2 hQ2 => ?_
      (with_reducible rename News _ _ _ _ => N₃)
      (with_reducible rename Fr _ _ _ _ => F₃)
      refine wpAny_mono (height_loop X' T' hroom hu ho₂ lh D oh oD nh W tw ((I, oI) :: ((TT, tupR3 A0 A1 A2) :: (A2, tupI2 2 (tk + 1 + 1 + 1) c tc) :: (A1, tupI2 1 (tk + 1 + 1) b tb) :: (A0, tupI2 0 (tk + 1) a ta) :: R)) xs dh (Wn.more fun p hp => .tail _ (.tail _ (.tail _ (.tail _ (.tail _ (hKK p hp)))))) hD a b c ta tb tc 0 a (tk + 1) ta mv tv ((List.range 0).any fun k => (List.range (hts a b c k)).any (tryB f W a b c mv k)) (by decide) hmv ha hW f (fun e he => hdone _ _ _ _ (hA e he)) gs dr os _ _ _ ?_ ?_ ?_ ?_ ?_ ?_ ?_ ?_ F₃ (news_sub N₃ (swap_first _ _))) ?_ fun _ _ y => y
      · exact (if_neg (by decide)).trans ((if_neg (by decide)).trans b1)
      · exact (if_neg (by decide)).trans ((if_neg (by decide)).trans b2)
      · exact (if_neg (by decide)).trans ((if_neg (by decide)).trans b3)
      · exact (if_neg (by decide)).trans ((if_neg (by decide)).trans b4)
      · exact (if_neg (by decide)).trans (if_pos rfl)
      · exact if_pos rfl
      · exact (if_neg (by decide)).trans ((if_neg (by decide)).trans g1)
      · exact (if_neg (by decide)).trans ((if_neg (by decide)).trans b8)
      · rintro f' s' ⟨rfl, m₃, h₃, tk₃, rfl, F₄, N₄, e1, e2⟩
        refine hQ2.of _ _ ?_
        refine ⟨m₃, _, gs, h₃, tk₃, rfl, F₄, news_sub N₄ (swap_back _ _), hI', ?_, rfl, rfl, ?_, fun y hy => ?_⟩
        · intro q hq o' e
          rw [List.mem_singleton.mp hq] at e ⊢
          rw [hTT] at e
          rw [← Option.some.inj e]
          exact N₄.get (by k_mem)
        · rw [e1, any_succ (fun k => (List.range (hts a b c k)).any (tryB f W a b c mv k)) 0]; rfl
        · refine (e2 y (fun q => hy (by rw [q]; simp)) (fun q => hy (by rw [q]; simp)) (fun q => hy (by rw [q]; simp))).trans ((if_neg fun q => hy (by rw [q]; simp)).trans ((if_neg fun q => hy (by rw [q]; simp)).trans (g2 y hy)))
    · obtain rfl : v = .ref A1 := by simpa using hi.symm
      have hTT := N₂.get (a := TT) (o := tupR3 A0 A1 A2) (by k_mem)
      repeat (fail_if_success (with_reducible show wpAny _ _ (execs _ _) _ _ _)); walk1
      refine hideQ fun Q2 hQ2 => ?_
      (with_reducible rename News _ _ _ _ => N₃)
      (with_reducible rename Fr _ _ _ _ => F₃)
      refine wpAny_mono (height_loop X' T' hroom hu ho₂ lh D oh oD nh W tw ((I, oI) :: ((TT, tupR3 A0 A1 A2) :: (A2, tupI2 2 (tk + 1 + 1 + 1) c tc) :: (A1, tupI2 1 (tk + 1 + 1) b tb) :: (A0, tupI2 0 (tk + 1) a ta) :: R)) xs dh (Wn.more fun p hp => .tail _ (.tail _ (.tail _ (.tail _ (.tail _ (hKK p hp)))))) hD a b c ta tb tc 1 b (tk + 1 + 1) tb mv tv ((List.range 1).any fun k => (List.range (hts a b c k)).any (tryB f W a b c mv k)) (by decide) hmv hb hW f (fun e he => hdone _ _ _ _ (hB e he)) gs dr os _ _ _ ?_ ?_ ?_ ?_ ?_ ?_ ?_ ?_ F₃ (news_sub N₃ (swap_first _ _))) ?_ fun _ _ y => y
      · exact (if_neg (by decide)).trans ((if_neg (by decide)).trans b1)
      · exact (if_neg (by decide)).trans ((if_neg (by decide)).trans b2)
      · exact (if_neg (by decide)).trans ((if_neg (by decide)).trans b3)
      · exact (if_neg (by decide)).trans ((if_neg (by decide)).trans b4)
      · exact (if_neg (by decide)).trans (if_pos rfl)
      · exact if_pos rfl
      · exact (if_neg (by decide)).trans ((if_neg (by decide)).trans g1)
      · exact (if_neg (by decide)).trans ((if_neg (by decide)).trans b8)
      · rintro f' s' ⟨rfl, m₃, h₃, tk₃, rfl, F₄, N₄, e1, e2⟩
        refine hQ2.of _ _ ?_
        refine ⟨m₃, _, gs, h₃, tk₃, rfl, F₄, news_sub N₄ (swap_back _ _), hI', ?_, rfl, rfl, ?_, fun y hy => ?_⟩
        · intro q hq o' e
          rw [List.mem_singleton.mp hq] at e ⊢
          rw [hTT] at e
          rw [← Option.some.inj e]
          exact N₄.get (by k_mem)
        · rw [e1, any_succ (fun k => (List.range (hts a b c k)).any (tryB f W a b c mv k)) 1]; rfl
        · refine (e2 y (fun q => hy (by rw [q]; simp)) (fun q => hy (by rw [q]; simp)) (fun q => hy (by rw [q]; simp))).trans ((if_neg fun q => hy (by rw [q]; simp)).trans ((if_neg fun q => hy (by rw [q]; simp)).trans (g2 y hy)))
    · obtain rfl : v = .ref A2 := by simpa using hi.symm
      have hTT := N₂.get (a := TT) (o := tupR3 A0 A1 A2) (by k_mem)
      repeat (fail_if_success (with_reducible show wpAny _ _ (execs _ _) _ _ _)); walk1
      refine hideQ fun Q2 hQ2 => ?_
      (with_reducible rename News _ _ _ _ => N₃)
      (with_reducible rename Fr _ _ _ _ => F₃)
      refine wpAny_mono (height_loop X' T' hroom hu ho₂ lh D oh oD nh W tw ((I, oI) :: ((TT, tupR3 A0 A1 A2) :: (A2, tupI2 2 (tk + 1 + 1 + 1) c tc) :: (A1, tupI2 1 (tk + 1 + 1) b tb) :: (A0, tupI2 0 (tk + 1) a ta) :: R)) xs dh (Wn.more fun p hp => .tail _ (.tail _ (.tail _ (.tail _ (.tail _ (hKK p hp)))))) hD a b c ta tb tc 2 c (tk + 1 + 1 + 1) tc mv tv ((List.range 2).any fun k => (List.range (hts a b c k)).any (tryB f W a b c mv k)) (by decide) hmv hc hW f (fun e he => hdone _ _ _ _ (hC e he)) gs dr os _ _ _ ?_ ?_ ?_ ?_ ?_ ?_ ?_ ?_ F₃ (news_sub N₃ (swap_first _ _))) ?_ fun _ _ y => y
      · exact (if_neg (by decide)).trans ((if_neg (by decide)).trans b1)
      · exact (if_neg (by decide)).trans ((if_neg (by decide)).trans b2)
      · exact (if_neg (by decide)).trans ((if_neg (by decide)).trans b3)
      · exact (if_neg (by decide)).trans ((if_neg (by decide)).trans b4)
      · exact (if_neg (by decide)).trans (if_pos rfl)
      · exact if_pos rfl
      · exact (if_neg (by decide)).trans ((if_neg (by decide)).trans g1)
      · exact (if_neg (by decide)).trans ((if_neg (by decide)).trans b8)
      · rintro f' s' ⟨rfl, m₃, h₃, tk₃, rfl, F₄, N₄, e1, e2⟩
        refine hQ2.of _ _ ?_
        refine ⟨m₃, _, gs, h₃, tk₃, rfl, F₄, news_sub N₄ (swap_back _ _), hI', ?_, rfl, rfl, ?_, fun y hy => ?_⟩
        · intro q hq o' e
          rw [List.mem_singleton.mp hq] at e ⊢
          rw [hTT] at e
          rw [← Option.some.inj e]
          exact N₄.get (by k_mem)
        · rw [e1, any_succ (fun k => (List.range (hts a b c k)).any (tryB f W a b c mv k)) 2]; rfl
        · refine (e2 y (fun q => hy (by rw [q]; simp)) (fun q => hy (by rw [q]; simp)) (fun q => hy (by rw [q]; simp))).trans ((if_neg fun q => hy (by rw [q]; simp)).trans ((if_neg fun q => hy (by rw [q]; simp)).trans (g2 y hy)))
  · rintro m₁ news₁ gs' h₁ tk₁ ⟨rfl, rfl, g1, g2⟩ F₂ N₂
    clear F₁ N₁
    have b1 := (g2 _ (by decide)).trans m1
    have b2 := (g2 _ (by decide)).trans m2
    have b3 := (g2 _ (by decide)).trans m3
    have b4 := (g2 _ (by decide)).trans m4
    have b5 := (g2 _ (by decide)).trans m5
    have b8 := (g2 _ (by decide)).trans m8
    clear m1 m2 m3 m4 m5 m8
    have g1 : m₁ (Str.ofString "good") = some (.bool (f a b c mv)) := by rw [← hgood]; exact g1
    k_steps
    (with_reducible rename News _ _ _ _ => N₃)
    (with_reducible rename Fr _ _ _ _ => F₃)
    rename_i T hq lT
    obtain ⟨z1, z2, z3, _, _, _, _, z4⟩ := lT
    refine wins_store (pre := [(L + 1 + 1 + 1, oh), (lh, heardO W tw nh)]) (ks := [(a : Int), (b : Int), (c : Int), (mv : Int)]) (R' := (T, { cls := .type "tuple", data := .seq #[.int a ta, .int b tb, .int c tc, .int mv tv] }) :: R) (by simp only [units_deeper]; unfold cLine; omega) Wn (fun p hp => .tail _ (hKK p hp)) F₃ (news_sub N₃ ?_) ?_ ?_ (.head _) ⟨rfl, _, _, rfl, .cons (by simp [intKind, Value.isInt]) (.cons (by simp [intKind, Value.isInt]) (.cons (by simp [intKind, Value.isInt]) (.cons (by simp [intKind, Value.isInt]) .nil)))⟩ hx ?_
    · intro p hp
      rcases List.mem_cons.mp hp with rfl | hp
      · k_mem
      rcases List.mem_cons.mp hp with rfl | hp
      · k_mem
      rcases List.mem_cons.mp hp with rfl | hp
      · k_mem
      rcases List.mem_cons.mp hp with rfl | hp
      · k_mem
      · exact .tail _ (.tail _ (.tail _ (.tail _ (.tail _ (.tail _ (.tail _ (.tail _ hp)))))))
    · exact List.forall_mem_cons.mpr ⟨Nat.ne_of_gt z3, aR⟩
    · exact List.forall_mem_cons.mpr ⟨aD1, List.forall_mem_cons.mpr ⟨aD2, List.forall_mem_nil _⟩⟩
    intro h₄ o₄ t F₄ N₄ Wn₄
    clear F₃ N₃
    replace N₄ : News g L h₄ ((L + 1 + 1 + 1, oh) :: (lh, heardO W tw nh) :: (D, o₄) :: (T, { cls := .type "tuple", data := .seq #[.int a ta, .int b tb, .int c tc, .int mv tv] }) :: R) := N₄
    k_steps
    all_goals first | (exfalso; rename (_ != _) = true => hz; first | (rw [hf, if_pos (by omega)] at hz; simp at hz; done) | (rw [hf, if_neg (by omega)] at hz; simp at hz; done)) | skip
    · (with_reducible rename News _ _ _ _ => N₅)
      (with_reducible rename Fr _ _ _ _ => F₅)
      refine hQ'.of _ _ ⟨rfl, m₁, _, _, o₄, _, [_], rfl, F₅, N₅, Wn₄, ?_, storedH_len, fun a' b' c' mv' h => ?_, g2⟩
      · intro q hq
        rw [List.mem_singleton.mp hq]
        exact ⟨Nat.ne_of_gt z3, fun p hp => Nat.ne_of_lt (allLt_to z4 p hp)⟩
      · by_cases e : [(a' : Int), (b' : Int), (c' : Int), (mv' : Int)] = [(a : Int), (b : Int), (c : Int), (mv : Int)]
        · simp only [List.cons.injEq, Int.natCast_inj, and_true] at e
          obtain ⟨rfl, rfl, rfl, rfl⟩ := e
          exact atKey_stored.1
        · rw [atKey_stored.2 _ e]
          rcases h with h | ⟨rfl, rfl, rfl, rfl⟩
          · exact hdone _ _ _ _ h
          · exact absurd rfl e
    · (with_reducible rename News _ _ _ _ => N₅)
      (with_reducible rename Fr _ _ _ _ => F₅)
      refine hQ'.of _ _ ⟨rfl, m₁, _, _, o₄, _, [_], rfl, F₅, N₅, Wn₄, ?_, storedH_len, fun a' b' c' mv' h => ?_, g2⟩
      · intro q hq
        rw [List.mem_singleton.mp hq]
        exact ⟨Nat.ne_of_gt z3, fun p hp => Nat.ne_of_lt (allLt_to z4 p hp)⟩
      · by_cases e : [(a' : Int), (b' : Int), (c' : Int), (mv' : Int)] = [(a : Int), (b : Int), (c : Int), (mv : Int)]
        · simp only [List.cons.injEq, Int.natCast_inj, and_true] at e
          obtain ⟨rfl, rfl, rfl, rfl⟩ := e
          exact atKey_stored.1
        · rw [atKey_stored.2 _ e]
          rcases h with h | ⟨rfl, rfl, rfl, rfl⟩
          · exact hdone _ _ _ _ h
          · exact absurd rfl e
end Mine
end

section
open PySem PySem.W PyProof.Rows PySem.Calls
namespace Mine
local macro_rules | `(tactic| walk_at "no such key 0") => `(tactic| fail)
theorem ints_at : ∀ {vs : List Value} {zs : List Int}, IntsAre vs zs → ∀ {k : Nat}, k < zs.length → ∃ t, vs[k]? = some (.int (zs.getD k 0) t)
  | _, _, .nil, k, h => absurd h (Nat.not_lt_zero _)
  | _, _, .cons z t r, 0, _ => ⟨t, rfl⟩
  | _, _, .cons z t r, k + 1, h => ints_at r (Nat.lt_of_succ_lt_succ h)
theorem item_int {prog : Program} {w : World} {A : Around} {E : Value → Shared → Prop} {s : Shared} {value slice : Expr} {l : Addr} {vs : List Value} {zs : List Int} {k : Nat} {u : Tok} {Q : Value → Shared → Prop} (hl : s.heap.IsList l vs.toArray) (hi : IntsAre vs zs) (hk : @LT.lt Nat _ k zs.length) (hz : @LT.lt Nat _ k 1000) (h : ∀ t, Q (.int (zs.getD k 0) t) s)
    (hs : subscripted slice false (.ref l) (.int k u) = operate [.ref l, .int k u] (getItem (.ref l) (.int k u)) := by with_unfolding_all rfl) :
    wpAny (model prog w) A (subscriptTail value slice (.ref l) (.int k u)) Q E s := by
  obtain ⟨t, ht⟩ := ints_at hi hk
  exact item_at hl (by simpa using ht) hz (h t) hs
local macro_rules | `(tactic| walk_at "subscriptTail Name Name ref int") => `(tactic| (refine item_int (News.isList (by assumption) (by k_mem)) (by assumption) (by omega) (by omega) ?_; intro _))
local macro_rules | `(tactic| walk_at "exec For Name Tuple cons nil") => `(tactic| with_unfolding_all (refine wpAny_For ?_))
local macro_rules | `(tactic| walk_at "exec For Name Tuple") => `(tactic| with_unfolding_all (refine wpAny_For ?_))
inductive WcJ (w : World) (L : Addr) (lh : Addr) (D : Addr) (TT : Addr) (oh : Obj) (W : Nat → Str) (tw : Nat → Tok) (nh : Nat) (t0 : Tok) (t1 : Tok) (tld : Tok) (R : List (Addr × Obj)) (KK : List (Addr × Obj)) (xs : List (List Int × Addr × Value)) (f : Nat → Nat → Nat → Nat → Bool) (Done : Nat → Nat → Nat → Nat → Prop) (a : Nat) (b : Nat) (c : Nat) (z0 : List Int) (z1 : List Int) (z2 : List Int) (gs : Array GenState) (m : Str → Option Value) (i : Nat) (m' : Str → Option Value) (news : List (Addr × Obj)) (gs' : Array GenState) : Prop
  | mk : (gs = gs') → ∀ oD' xs' K, (news = (L + 1 + 1 + 1, oh) :: (lh, heardO W tw nh) :: (D, oD') :: (K ++ ((TT, (tupI2 0 t0 1 t1)) :: R))) → (WinTab PySem.Challenge.rw_re0035_01.row.prog w oD' xs' (K ++ KK)) → ((∀ q ∈ K, @Ne Nat q.1 D ∧ ∀ p ∈ R, @Ne Nat p.1 q.1)) → (xs'.length ≤ xs.length + i) → ((∀ a' b' c' mv', (Done a' b' c' mv' ∨ (a' = a ∧ b' = b ∧ c' = c ∧ mv' < i)) → ∃ T, atKey xs' [(a' : Int), (b' : Int), (c' : Int), (mv' : Int)] = some (T, .bool (f a' b' c' mv')))) → (m' (Str.ofString "told") = some (.int (z0.getD a 0 + z1.getD b 0 + z2.getD c 0) tld)) → (∀ y, y ∉ [Str.ofString "after", Str.ofString "good", Str.ofString "edge", Str.ofString "k", Str.ofString "height", Str.ofString "told", Str.ofString "mover"] → m' y = m y) → WcJ w L lh D TT oh W tw nh t0 t1 tld R KK xs f Done a b c z0 z1 z2 gs m i m' news gs'
theorem wc_turn : ∀ {w : World} {dp u : Nat} {fr : Option (List Env)} {gd : Option (List Code)} {g : Heap} {mg mb : Str → Option Value} {p : Program} {loose : List Str} {mean : ExcName → Option Value} {L : Addr}
    {name qual : Str} {params : Arguments} {body : List Stmt} {scope : Scope} {dV kV doc pm cdv ct oc : Value} {an od : Option Addr} {osl : Array (Option Value)}
    (X' : (hd.heap_1 w.params).In g) (T' : Top p loose mean mg mb g) (hroom : dp < 400) (hu : u < 4000)
    (ho : (hd.heap_1 w.params).lookup 178 = some ⟨oc, od, .func (fnOf name qual params body scope dV kV doc pm an cdv ct), osl⟩)
    (lh D : Addr) (oh oD : Obj) (nh : Nat) (W : Nat → Str) (tw : Nat → Tok) (R KK : List (Addr × Obj)) (hKK : ∀ p ∈ KK, p ∈ R) (xs : List (List Int × Addr × Value)) (dh : oh.data = .cell (some (.ref lh))) (Wn : WinTab PySem.Challenge.rw_re0035_01.row.prog w oD xs KK) (hD : (D == sysModules) = false)
    (hx : xs.length ≤ 900) (aD1 : @Ne Nat (L + 1 + 1 + 1) D) (aD2 : @Ne Nat lh D) (aR : ∀ p ∈ R, @Ne Nat p.1 D)
    (cl c0 c1 c2 : Addr) (ncl n0 n1 n2 : Nat) (v0 v1 v2 : List Value) (z0 z1 z2 : List Int) (hcl : (cl, ref3O c0 c1 c2 ncl) ∈ R) (hc0 : (c0, listOf v0.toArray n0) ∈ R) (hc1 : (c1, listOf v1.toArray n1) ∈ R) (hc2 : (c2, listOf v2.toArray n2) ∈ R)
    (i0 : IntsAre v0 z0) (i1 : IntsAre v1 z1) (i2 : IntsAre v2 z2)
    (a b c : Nat) (ta tb tc : Tok) (ha : @LE.le Nat _ a (W 0).length) (hb : @LE.le Nat _ b (W 1).length) (hc : @LE.le Nat _ c (W 2).length) (hW : ∀ j, j < 3 → (W j).length ≤ 3) (e0 : z0.length = (W 0).length + 1) (e1 : z1.length = (W 1).length + 1) (e2 : z2.length = (W 2).length + 1)
    (f : Nat → Nat → Nat → Nat → Bool) (Done : Nat → Nat → Nat → Nat → Prop) (hdone : ∀ a b c mv, Done a b c mv → ∃ T, atKey xs [(a : Int), (b : Int), (c : Int), (mv : Int)] = some (T, .bool (f a b c mv)))
    (hA : ∀ e mv, e < a → mv < 2 → Done e b c mv) (hB : ∀ e mv, e < b → mv < 2 → Done a e c mv) (hC : ∀ e mv, e < c → mv < 2 → Done a b e mv)
    (hf : ∀ mv, f a b c mv = if mv = 0 then decide (0 < z0.getD a 0 + z1.getD b 0 + z2.getD c 0) else decide (z0.getD a 0 + z1.getD b 0 + z2.getD c 0 < 0)) (hgood : ∀ mv, mv < 2 → ((List.range 3).any fun k => (List.range (hts a b c k)).any (tryB f W a b c mv k)) = f a b c mv)
    (gs : Array GenState) (dr : Drawn) (os : OsState) (m : Str → Option Value) (h : Heap) (tk : Nat)
    (m1 : m (Str.ofString "a") = some (.int a ta)) (m2 : m (Str.ofString "b") = some (.int b tb)) (m3 : m (Str.ofString "c") = some (.int c tc)) (m5 : m (Str.ofString "counts") = some (.ref cl)) (m8 : m (Str.ofString "wins") = some (.ref D))
    (F : Fr g L h m) (N : News g L h ((L + 1 + 1 + 1, oh) :: (lh, heardO W tw nh) :: (D, oD) :: R)),
    wpAny (model PySem.Challenge.rw_re0035_01.row.prog w) (Around.deeper ⟨none, dp, fr, gd, u⟩ (envOfC qual scope L 178 cdv)) (execs (forBody (forBody (forBody (afterFor body)))) (envOfC qual scope L 178 cdv))
      (WinsPost PySem.Challenge.rw_re0035_01.row.prog w g L lh D oh (heardO W tw nh) R KK (xs.length + 2) (fun a' b' c' mv' => Done a' b' c' mv' ∨ (a' = a ∧ b' = b ∧ c' = c ∧ mv' < 2)) f gs dr os m [Str.ofString "after", Str.ofString "good", Str.ofString "edge", Str.ofString "k", Str.ofString "height", Str.ofString "told", Str.ofString "mover"]) (fun _ _ => False) ⟨h, gs, dr, tk, os⟩ := by
  k_fill
  intro w dp u fr gd g mg mb p loose mean L name qual params body scope dV kV doc pm cdv ct oc an od osl X' T' hroom hu ho lh D oh oD nh W tw R KK hKK xs dh Wn hD hx aD1 aD2 aR cl c0 c1 c2 ncl n0 n1 n2 v0 v1 v2 z0 z1 z2 hcl hc0 hc1 hc2 i0 i1 i2 a b c ta tb tc ha hb hc hW e0 e1 e2 f Done hdone hA hB hC hf hgood gs dr os m h tk m1 m2 m3 m5 m8 F N
  have ho₂ := ho
  obtain ⟨q1, q2, q3, q4⟩ := fn_inj ho (by k_is)
  subst q1 q2 q3 q4
  clear ho
  conv in (execs _ _) => arg 1; whnf
  refine hideQ fun Q' hQ' => ?_
  have N' : News g L h ((cl, ref3O c0 c1 c2 ncl) :: (c0, listOf v0.toArray n0) :: (c1, listOf v1.toArray n1) :: (c2, listOf v2.toArray n2) :: (L + 1 + 1 + 1, oh) :: (lh, heardO W tw nh) :: (D, oD) :: R) := news_sub N fun p hp => by
    rcases List.mem_cons.mp hp with rfl | hp
    · exact .tail _ (.tail _ (.tail _ hcl))
    rcases List.mem_cons.mp hp with rfl | hp
    · exact .tail _ (.tail _ (.tail _ hc0))
    rcases List.mem_cons.mp hp with rfl | hp
    · exact .tail _ (.tail _ (.tail _ hc1))
    rcases List.mem_cons.mp hp with rfl | hp
    · exact .tail _ (.tail _ (.tail _ hc2))
    · exact hp
  clear N
  have hW0 := hW 0 (by decide)
  have hW1 := hW 1 (by decide)
  have hW2 := hW 2 (by decide)
  k_steps
  unfold Hold
  (with_reducible rename News _ _ _ _ => N₁)
  (with_reducible rename Fr _ _ _ _ => F₁)
  rename_i TT hq lT
  obtain ⟨_, _, _, _, _, _, zD, zR⟩ := lT
  obtain ⟨t0, t1, tld, M, hM, hM2, F₂, NT, N₂⟩ : ∃ (t0 t1 tld : Tok) (M : Str → Option Value), M (Str.ofString "told") = some (.int (z0.getD a 0 + z1.getD b 0 + z2.getD c 0) tld) ∧ (∀ y, y ≠ Str.ofString "told" → M y = m y) ∧ Fr g L hq M ∧ hq.get? TT = some (tupI2 0 t0 1 t1) ∧ News g L hq ((L + 1 + 1 + 1, oh) :: (lh, heardO W tw nh) :: (D, oD) :: (TT, (tupI2 0 t0 1 t1)) :: R) :=
    ⟨_, _, _, _, if_pos rfl, fun y hy => if_neg hy, F₁, N₁.get (.head _), news_sub N₁ fun p hp => by
      rcases List.mem_cons.mp hp with rfl | hp
      · k_mem
      rcases List.mem_cons.mp hp with rfl | hp
      · k_mem
      rcases List.mem_cons.mp hp with rfl | hp
      · k_mem
      rcases List.mem_cons.mp hp with rfl | hp
      · k_mem
      · exact .tail _ (.tail _ (.tail _ (.tail _ (.tail _ (.tail _ (.tail _ (.tail _ hp)))))))⟩
  clear F₁ N₁
  refine for_tuple (items := #[.int 0 t0, .int 1 t1]) (J := WcJ w L lh D TT oh W tw nh t0 t1 tld R KK xs f Done a b c z0 z1 z2 gs m) rfl F₂ N₂ ⟨_, NT, rfl, _, rfl⟩ ⟨rfl, oD, xs, [], rfl, Wn, (fun q hq => nomatch hq), Nat.le_refl _, (fun a' b' c' mv' h => hdone _ _ _ _ (h.elim id fun q => absurd q.2.2.2 (Nat.not_lt_zero _))), hM, fun y hy => hM2 y fun q => hy (by rw [q]; simp)⟩ ?_ ?_
  · intro i v I oI m₁ news₁ gs' h₁ tk₁ hi HJ hI hI' hT F₃ N₃
    obtain ⟨rfl, oD', xs', K, rfl, Wn', hK, hlen, hd', g1, g2⟩ := HJ
    have hi2 : i < 2 := by have := (Array.getElem?_eq_some_iff.mp hi).1; simpa using this
    have hv : ∃ t, v = .int (i : Nat) t := by
      rcases lt2 (i := i) (by omega) with rfl | rfl
      · exact ⟨t0, by simpa using hi.symm⟩
      · exact ⟨t1, by simpa using hi.symm⟩
    obtain ⟨tv, rfl⟩ := hv
    have b1 := (g2 _ (by decide)).trans m1
    have b2 := (g2 _ (by decide)).trans m2
    have b3 := (g2 _ (by decide)).trans m3
    have b8 := (g2 _ (by decide)).trans m8
    have hTT := N₃.get (a := TT) (o := (tupI2 0 t0 1 t1)) (.tail _ (.tail _ (.tail _ (.tail _ (List.mem_append_right _ (.head _))))))
    have aI : @Ne Nat I D := Nat.ne_of_gt (hI (D, oD) (.tail _ (.tail _ (.head _))))
    repeat (fail_if_success (with_reducible show wpAny _ _ (execs _ _) _ _ _)); walk1
    refine hideQ fun Q2 hQ2 => ?_
    (with_reducible rename News _ _ _ _ => N₄)
    (with_reducible rename Fr _ _ _ _ => F₄)
    refine wpAny_mono (mover_turn X' T' hroom hu ho₂ lh D oh oD' nh W tw ((I, oI) :: (K ++ ((TT, (tupI2 0 t0 1 t1)) :: R))) (K ++ KK) ?_ xs' dh Wn' hD (by omega) aD1 aD2 ?_ a b c ta tb tc i tv (by omega) ha hb hc hW f (fun a' b' c' mv' => Done a' b' c' mv' ∨ (a' = a ∧ b' = b ∧ c' = c ∧ mv' < i)) hd' (fun e he => .inl (hA e _ he (by omega))) (fun e he => .inl (hB e _ he (by omega))) (fun e he => .inl (hC e _ he (by omega))) _ tld (hf i) (hgood i hi2) gs dr os _ _ _ ?_ ?_ ?_ ?_ ?_ ?_ F₄ (news_sub N₄ (swap_first _ _))) ?_ fun _ _ y => y
    · intro p hp
      rcases List.mem_append.mp hp with hp | hp
      · exact .tail _ (List.mem_append_left _ hp)
      · exact .tail _ (List.mem_append_right _ (.tail _ (hKK p hp)))
    · refine List.forall_mem_cons.mpr ⟨aI, fun p hp => ?_⟩
      rcases List.mem_append.mp hp with hp | hp
      · exact (hK p hp).1
      rcases List.mem_cons.mp hp with rfl | hp
      · exact Nat.ne_of_gt zD
      · exact aR p hp
    · exact (if_neg (by decide)).trans b1
    · exact (if_neg (by decide)).trans b2
    · exact (if_neg (by decide)).trans b3
    · exact if_pos rfl
    · exact (if_neg (by decide)).trans g1
    · exact (if_neg (by decide)).trans b8
    · rintro f' s' ⟨rfl, m₃, h₃, tk₃, oD₃, xs₃, K₃, rfl, F₅, N₅, Wn₅, hK₅, hlen₅, hd₅, g5⟩
      refine hQ2.of _ _ ?_
      refine ⟨m₃, _, gs, h₃, tk₃, rfl, F₅, ?_, ?_, ?_, rfl, oD₃, xs₃, K₃ ++ K, rfl, ?_, ?_, by omega, ?_, ?_, ?_⟩
      · refine news_sub N₅ ?_
        walk_at "my sub"
      · intro p hp
        simp only [List.mem_cons, List.mem_append] at hp
        rcases hp with h | h | h | (h | h) | h | h
        · rw [h]; exact hI' (L + 1 + 1 + 1, oh) (.head _)
        · rw [h]; exact hI' (lh, _) (.tail _ (.head _))
        · rw [h]; exact Ne.symm aI
        · exact Ne.symm ((hK₅ p h).2 (I, oI) (.head _))
        · exact hI' p (.tail _ (.tail _ (.tail _ (List.mem_append_left _ h))))
        · exact hI' p (.tail _ (.tail _ (.tail _ (List.mem_append_right _ (by rw [h]; exact .head _)))))
        · exact hI' p (.tail _ (.tail _ (.tail _ (List.mem_append_right _ (.tail _ h)))))
      · intro q hq o' e
        rw [List.mem_singleton.mp hq] at e ⊢
        rw [hTT] at e
        rw [← Option.some.inj e]
        exact N₅.get (.tail _ (.tail _ (.tail _ (List.mem_append_right _ (.tail _ (List.mem_append_right _ (.head _)))))))
      · rw [List.append_assoc]; exact Wn₅
      · intro q hq
        rcases List.mem_append.mp hq with hq | hq
        · exact ⟨(hK₅ q hq).1, fun p hp => (hK₅ q hq).2 p (.tail _ (List.mem_append_right _ (.tail _ hp)))⟩
        · exact hK q hq
      · intro a' b' c' mv' h
        refine hd₅ a' b' c' mv' ?_
        rcases h with h | ⟨h1, h2, h3, h4⟩
        · exact .inl (.inl h)
        · by_cases e : mv' = i
          · exact .inr ⟨h1, h2, h3, e⟩
          · exact .inl (.inr ⟨h1, h2, h3, by omega⟩)
      · exact (g5 _ (by decide)).trans ((if_neg (by decide)).trans g1)
      · intro y hy
        refine (g5 y fun q => hy ?_).trans ((if_neg fun q => hy (by rw [q]; simp)).trans (g2 y hy))
        simp only [List.mem_cons] at q ⊢
        rcases q with q | q | q | q | q | q
        all_goals simp [q]
  · rintro m₁ news₁ gs' h₁ tk₁ ⟨rfl, oD', xs', K, rfl, Wn', hK, hlen, hd', g1, g2⟩ F₃ N₃
    k_steps
    refine hQ'.of _ _ ?_
    refine ⟨rfl, m₁, _, _, oD', xs', K, rfl, F₃, news_sub N₃ ?_, Wn', hK, hlen, hd', g2⟩
    walk_at "my sub"
end Mine
end

section
open PySem PySem.W PyProof.Rows PySem.Calls
namespace Mine
noncomputable def forStmt (l : List Stmt) : Stmt := firstOf 1 l
/-- what the wins loops are told ahead: trying all moves agrees with the counts -/
noncomputable def WinLaw (f : Nat → Nat → Nat → Nat → Bool) (W : Nat → Str) (z0 z1 z2 : List Int) : Prop :=
  ∀ a b c, a ≤ (W 0).length → b ≤ (W 1).length → c ≤ (W 2).length → (∀ mv, f a b c mv = if mv = 0 then decide (0 < z0.getD a 0 + z1.getD b 0 + z2.getD c 0) else decide (z0.getD a 0 + z1.getD b 0 + z2.getD c 0 < 0)) ∧ ∀ mv, mv < 2 → ((List.range 3).any fun k => (List.range (hts a b c k)).any (tryB f W a b c mv k)) = f a b c mv
theorem drop_last {l : List Str} {y x : Str} (h : y ∉ l ++ [x]) : y ∉ l ∧ y ≠ x := by
  simp only [List.mem_append, List.mem_singleton, not_or] at h
  exact h
local macro_rules | `(tactic| walk_at "exec For Name Call cons nil") => `(tactic| with_unfolding_all (refine wpAny_For ?_))
inductive CLoopJ (w : World) (L : Addr) (lh : Addr) (D : Addr) (oh : Obj) (W : Nat → Str) (tw : Nat → Tok) (nh : Nat) (R : List (Addr × Obj)) (KK : List (Addr × Obj)) (xs : List (List Int × Addr × Value)) (f : Nat → Nat → Nat → Nat → Bool) (Done : Nat → Nat → Nat → Nat → Prop) (a : Nat) (b : Nat) (gs : Array GenState) (m : Str → Option Value) (i : Nat) (m' : Str → Option Value) (news : List (Addr × Obj)) (gs' : Array GenState) : Prop
  | mk : (gs = gs') → ∀ oD' xs' K, (news = (L + 1 + 1 + 1, oh) :: (lh, heardO W tw nh) :: (D, oD') :: (K ++ R)) → (WinTab PySem.Challenge.rw_re0035_01.row.prog w oD' xs' (K ++ KK)) → ((∀ q ∈ K, @Ne Nat q.1 D ∧ ∀ p ∈ R, @Ne Nat p.1 q.1)) → (xs'.length ≤ xs.length + 2 * i) → ((∀ a' b' c' mv', (Done a' b' c' mv' ∨ (a' = a ∧ b' = b ∧ c' < i ∧ mv' < 2)) → ∃ T, atKey xs' [(a' : Int), (b' : Int), (c' : Int), (mv' : Int)] = some (T, .bool (f a' b' c' mv')))) → (∀ y, y ∉ [Str.ofString "after", Str.ofString "good", Str.ofString "edge", Str.ofString "k", Str.ofString "height", Str.ofString "told", Str.ofString "mover", Str.ofString "c"] → m' y = m y) → CLoopJ w L lh D oh W tw nh R KK xs f Done a b gs m i m' news gs'
theorem c_loop : ∀ {w : World} {dp u : Nat} {fr : Option (List Env)} {gd : Option (List Code)} {g : Heap} {mg mb : Str → Option Value} {p : Program} {loose : List Str} {mean : ExcName → Option Value} {L : Addr}
    {name qual : Str} {params : Arguments} {body : List Stmt} {scope : Scope} {dV kV doc pm cdv ct oc : Value} {an od : Option Addr} {osl : Array (Option Value)}
    (X' : (hd.heap_1 w.params).In g) (T' : Top p loose mean mg mb g) (hroom : dp < 400) (hu : u < 4000)
    (ho : (hd.heap_1 w.params).lookup 178 = some ⟨oc, od, .func (fnOf name qual params body scope dV kV doc pm an cdv ct), osl⟩)
    (lh D : Addr) (oh oD : Obj) (nh : Nat) (W : Nat → Str) (tw : Nat → Tok) (R KK : List (Addr × Obj)) (hKK : ∀ p ∈ KK, p ∈ R) (xs : List (List Int × Addr × Value)) (dh : oh.data = .cell (some (.ref lh))) (Wn : WinTab PySem.Challenge.rw_re0035_01.row.prog w oD xs KK) (hD : (D == sysModules) = false)
    (hx : xs.length ≤ 880) (aD1 : @Ne Nat (L + 1 + 1 + 1) D) (aD2 : @Ne Nat lh D) (aR : ∀ p ∈ R, @Ne Nat p.1 D)
    (cl c0 c1 c2 sl : Addr) (ncl n0 n1 n2 nsl : Nat) (v0 v1 v2 vl : List Value) (z0 z1 z2 : List Int) (hcl : (cl, ref3O c0 c1 c2 ncl) ∈ R) (hc0 : (c0, listOf v0.toArray n0) ∈ R) (hc1 : (c1, listOf v1.toArray n1) ∈ R) (hc2 : (c2, listOf v2.toArray n2) ∈ R) (hsl : (sl, listOf vl.toArray nsl) ∈ R)
    (i0 : IntsAre v0 z0) (i1 : IntsAre v1 z1) (i2 : IntsAre v2 z2) (il : IntsAre vl [((W 0).length : Int), ((W 1).length : Int), ((W 2).length : Int)])
    (hW : ∀ j, j < 3 → (W j).length ≤ 3) (e0 : z0.length = (W 0).length + 1) (e1 : z1.length = (W 1).length + 1) (e2 : z2.length = (W 2).length + 1)
    (f : Nat → Nat → Nat → Nat → Bool) (hlaw : WinLaw f W z0 z1 z2) (Done : Nat → Nat → Nat → Nat → Prop) (hdone : ∀ a b c mv, Done a b c mv → ∃ T, atKey xs [(a : Int), (b : Int), (c : Int), (mv : Int)] = some (T, .bool (f a b c mv)))
    (a b : Nat) (ta tb : Tok) (ha : @LE.le Nat _ a (W 0).length) (hb : @LE.le Nat _ b (W 1).length) (hA : ∀ e c mv, e < a → c ≤ (W 2).length → mv < 2 → Done e b c mv) (hB : ∀ e c mv, e < b → c ≤ (W 2).length → mv < 2 → Done a e c mv)
    (gs : Array GenState) (dr : Drawn) (os : OsState) (m : Str → Option Value) (h : Heap) (tk : Nat)
    (m_a : m (Str.ofString "a") = some (.int a ta)) (m_b : m (Str.ofString "b") = some (.int b tb)) (m_counts : m (Str.ofString "counts") = some (.ref cl)) (m_wins : m (Str.ofString "wins") = some (.ref D)) (m_sizes : m (Str.ofString "sizes") = some (.ref sl))
    (F : Fr g L h m) (N : News g L h ((L + 1 + 1 + 1, oh) :: (lh, heardO W tw nh) :: (D, oD) :: R)),
    wpAny (model PySem.Challenge.rw_re0035_01.row.prog w) (Around.deeper ⟨none, dp, fr, gd, u⟩ (envOfC qual scope L 178 cdv)) (execs (forBody (forBody (afterFor body))) (envOfC qual scope L 178 cdv))
      (WinsPost PySem.Challenge.rw_re0035_01.row.prog w g L lh D oh (heardO W tw nh) R KK (xs.length + 2 * ((W 2).length + 1)) (fun a' b' c' mv' => (Done a' b' c' mv' ∨ (a' = a ∧ b' = b ∧ c' < (W 2).length + 1 ∧ mv' < 2))) f gs dr os m [Str.ofString "after", Str.ofString "good", Str.ofString "edge", Str.ofString "k", Str.ofString "height", Str.ofString "told", Str.ofString "mover", Str.ofString "c"]) (fun _ _ => False) ⟨h, gs, dr, tk, os⟩ := by
  k_fill
  intro w dp u fr gd g mg mb p loose mean L name qual params body scope dV kV doc pm cdv ct oc an od osl X' T' hroom hu ho lh D oh oD nh W tw R KK hKK xs dh Wn hD hx aD1 aD2 aR cl c0 c1 c2 sl ncl n0 n1 n2 nsl v0 v1 v2 vl z0 z1 z2 hcl hc0 hc1 hc2 hsl i0 i1 i2 il hW e0 e1 e2 f hlaw Done hdone a b ta tb ha hb hA hB gs dr os m h tk m_a m_b m_counts m_wins m_sizes F N
  have ho₂ := ho
  obtain ⟨q1, q2, q3, q4⟩ := fn_inj ho (by k_is)
  subst q1 q2 q3 q4
  clear ho
  conv in (execs _ _) => arg 1; whnf
  have hW0 := hW 0 (by decide)
  have hW1 := hW 1 (by decide)
  have hW2 := hW 2 (by decide)
  have N' : News g L h ((sl, listOf vl.toArray nsl) :: (L + 1 + 1 + 1, oh) :: (lh, heardO W tw nh) :: (D, oD) :: R) := news_sub N fun p hp => by
    rcases List.mem_cons.mp hp with rfl | hp
    · exact .tail _ (.tail _ (.tail _ hsl))
    · exact hp
  clear N
  k_steps
  unfold Hold
  (with_reducible rename IsRange _ _ _ _ _ _ _ _ => hR)
  (with_reducible rename News _ _ _ _ => N₁)
  (with_reducible rename Fr _ _ _ _ => F₁)
  refine for_range (n := (W 2).length + 1) (news := (L + 1 + 1 + 1, oh) :: (lh, heardO W tw nh) :: (D, oD) :: R) (J := CLoopJ w L lh D oh W tw nh R KK xs f Done a b gs m) rfl rfl rfl F₁ (news_sub N₁ fun p hp => .tail _ hp) hR (by omega) ⟨rfl, oD, xs, [], rfl, Wn, (fun q hq => nomatch hq), Nat.le_refl _, (fun a' b' c' mv' h => hdone _ _ _ _ (h.elim id fun q => absurd q.2.2.1 (Nat.not_lt_zero _))), fun y hy => rfl⟩ ?_ ?_
  · rintro i t I oI m₁ news₁ gs' h₁ tk₁ hi ⟨rfl, oD', xs', K, rfl, Wn', hK, hlen, hd', g2⟩ hI hI' F₃ N₃
    clear F₁ N₁
    have aI : @Ne Nat I D := Nat.ne_of_gt (hI (D, oD) (.tail _ (.tail _ (.head _))))
    refine wpAny_mono (wc_turn X' T' hroom hu ho₂ lh D oh oD' nh W tw ((I, oI) :: (K ++ R)) (K ++ KK) ?_ xs' dh Wn' hD (by omega) aD1 aD2 ?_ cl c0 c1 c2 ncl n0 n1 n2 v0 v1 v2 z0 z1 z2 (.tail _ (List.mem_append_right _ hcl)) (.tail _ (List.mem_append_right _ hc0)) (.tail _ (List.mem_append_right _ hc1)) (.tail _ (List.mem_append_right _ hc2)) i0 i1 i2 a b i ta tb t ha hb (by omega) hW e0 e1 e2 f _ hd' (fun e mv he hm => .inl (hA e i mv he (by omega) hm)) (fun e mv he hm => .inl (hB e i mv he (by omega) hm)) (fun e mv he hm => .inr ⟨rfl, rfl, he, hm⟩) (hlaw a b i ha hb (by omega)).1 (hlaw a b i ha hb (by omega)).2 gs dr os _ h₁ tk₁ ?_ ?_ ?_ ?_ ?_ F₃ (news_sub N₃ (swap_first _ _))) ?_ fun _ _ y => y
    · intro p hp
      rcases List.mem_append.mp hp with hp | hp
      · exact .tail _ (List.mem_append_left _ hp)
      · exact .tail _ (List.mem_append_right _ (hKK p hp))
    · refine List.forall_mem_cons.mpr ⟨aI, fun p hp => ?_⟩
      rcases List.mem_append.mp hp with hp | hp
      · exact (hK p hp).1
      · exact aR p hp
    · exact (if_neg (by decide)).trans ((g2 _ (by decide)).trans m_a)
    · exact (if_neg (by decide)).trans ((g2 _ (by decide)).trans m_b)
    · exact if_pos rfl
    · exact (if_neg (by decide)).trans ((g2 _ (by decide)).trans m_counts)
    · exact (if_neg (by decide)).trans ((g2 _ (by decide)).trans m_wins)
    · rintro f' s' ⟨rfl, m₃, h₃, tk₃, oD₃, xs₃, K₃, rfl, F₅, N₅, Wn₅, hK₅, hlen₅, hd₅, g5⟩
      refine ⟨m₃, _, gs, h₃, tk₃, rfl, F₅, ?_, ?_, (fun _ hb => nomatch hb), rfl, oD₃, xs₃, K₃ ++ K, rfl, ?_, ?_, by omega, ?_, ?_⟩
      · refine news_sub N₅ ?_
        walk_at "my sub"
      · intro p hp
        simp only [List.mem_cons, List.mem_append] at hp
        rcases hp with h | h | h | (h | h) | h
        · rw [h]; exact hI' (L + 1 + 1 + 1, oh) (.head _)
        · rw [h]; exact hI' (lh, _) (.tail _ (.head _))
        · rw [h]; exact Ne.symm aI
        · exact Ne.symm ((hK₅ p h).2 (I, oI) (.head _))
        · exact hI' p (.tail _ (.tail _ (.tail _ (List.mem_append_left _ h))))
        · exact hI' p (.tail _ (.tail _ (.tail _ (List.mem_append_right _ h))))
      · rw [List.append_assoc]; exact Wn₅
      · intro q hq
        rcases List.mem_append.mp hq with hq | hq
        · exact ⟨(hK₅ q hq).1, fun p hp => (hK₅ q hq).2 p (.tail _ (List.mem_append_right _ hp))⟩
        · exact hK q hq
      · intro a' b' c' mv' h
        refine hd₅ a' b' c' mv' ?_
        rcases h with h | ⟨h1, h2, h3, h4⟩
        · exact .inl (.inl h)
        · by_cases e : c' = i
          · exact .inr ⟨h1, h2, e, h4⟩
          · exact .inl (.inr ⟨h1, h2, by omega, h4⟩)
      · intro y hy
        obtain ⟨hy1, hy2⟩ := drop_last (l := [Str.ofString "after", Str.ofString "good", Str.ofString "edge", Str.ofString "k", Str.ofString "height", Str.ofString "told", Str.ofString "mover"]) hy
        exact (g5 y hy1).trans ((if_neg hy2).trans (g2 y hy))
  · rintro m₁ news₁ gs' h₁ tk₁ ⟨rfl, oD', xs', K, rfl, Wn', hK, hlen, hd', g2⟩ F₃ N₃
    clear F₁ N₁
    k_steps
    exact ⟨rfl, m₁, _, _, oD', xs', K, rfl, F₃, N₃, Wn', hK, hlen, hd', g2⟩

inductive BLoopJ (w : World) (L : Addr) (lh : Addr) (D : Addr) (oh : Obj) (W : Nat → Str) (tw : Nat → Tok) (nh : Nat) (R : List (Addr × Obj)) (KK : List (Addr × Obj)) (xs : List (List Int × Addr × Value)) (f : Nat → Nat → Nat → Nat → Bool) (Done : Nat → Nat → Nat → Nat → Prop) (a : Nat) (gs : Array GenState) (m : Str → Option Value) (i : Nat) (m' : Str → Option Value) (news : List (Addr × Obj)) (gs' : Array GenState) : Prop
  | mk : (gs = gs') → ∀ oD' xs' K, (news = (L + 1 + 1 + 1, oh) :: (lh, heardO W tw nh) :: (D, oD') :: (K ++ R)) → (WinTab PySem.Challenge.rw_re0035_01.row.prog w oD' xs' (K ++ KK)) → ((∀ q ∈ K, @Ne Nat q.1 D ∧ ∀ p ∈ R, @Ne Nat p.1 q.1)) → (xs'.length ≤ xs.length + 8 * i) → ((∀ a' b' c' mv', (Done a' b' c' mv' ∨ (a' = a ∧ b' < i ∧ c' < (W 2).length + 1 ∧ mv' < 2)) → ∃ T, atKey xs' [(a' : Int), (b' : Int), (c' : Int), (mv' : Int)] = some (T, .bool (f a' b' c' mv')))) → (∀ y, y ∉ [Str.ofString "after", Str.ofString "good", Str.ofString "edge", Str.ofString "k", Str.ofString "height", Str.ofString "told", Str.ofString "mover", Str.ofString "c", Str.ofString "b"] → m' y = m y) → BLoopJ w L lh D oh W tw nh R KK xs f Done a gs m i m' news gs'
theorem b_loop : ∀ {w : World} {dp u : Nat} {fr : Option (List Env)} {gd : Option (List Code)} {g : Heap} {mg mb : Str → Option Value} {p : Program} {loose : List Str} {mean : ExcName → Option Value} {L : Addr}
    {name qual : Str} {params : Arguments} {body : List Stmt} {scope : Scope} {dV kV doc pm cdv ct oc : Value} {an od : Option Addr} {osl : Array (Option Value)}
    (X' : (hd.heap_1 w.params).In g) (T' : Top p loose mean mg mb g) (hroom : dp < 400) (hu : u < 4000)
    (ho : (hd.heap_1 w.params).lookup 178 = some ⟨oc, od, .func (fnOf name qual params body scope dV kV doc pm an cdv ct), osl⟩)
    (lh D : Addr) (oh oD : Obj) (nh : Nat) (W : Nat → Str) (tw : Nat → Tok) (R KK : List (Addr × Obj)) (hKK : ∀ p ∈ KK, p ∈ R) (xs : List (List Int × Addr × Value)) (dh : oh.data = .cell (some (.ref lh))) (Wn : WinTab PySem.Challenge.rw_re0035_01.row.prog w oD xs KK) (hD : (D == sysModules) = false)
    (hx : xs.length ≤ 800) (aD1 : @Ne Nat (L + 1 + 1 + 1) D) (aD2 : @Ne Nat lh D) (aR : ∀ p ∈ R, @Ne Nat p.1 D)
    (cl c0 c1 c2 sl : Addr) (ncl n0 n1 n2 nsl : Nat) (v0 v1 v2 vl : List Value) (z0 z1 z2 : List Int) (hcl : (cl, ref3O c0 c1 c2 ncl) ∈ R) (hc0 : (c0, listOf v0.toArray n0) ∈ R) (hc1 : (c1, listOf v1.toArray n1) ∈ R) (hc2 : (c2, listOf v2.toArray n2) ∈ R) (hsl : (sl, listOf vl.toArray nsl) ∈ R)
    (i0 : IntsAre v0 z0) (i1 : IntsAre v1 z1) (i2 : IntsAre v2 z2) (il : IntsAre vl [((W 0).length : Int), ((W 1).length : Int), ((W 2).length : Int)])
    (hW : ∀ j, j < 3 → (W j).length ≤ 3) (e0 : z0.length = (W 0).length + 1) (e1 : z1.length = (W 1).length + 1) (e2 : z2.length = (W 2).length + 1)
    (f : Nat → Nat → Nat → Nat → Bool) (hlaw : WinLaw f W z0 z1 z2) (Done : Nat → Nat → Nat → Nat → Prop) (hdone : ∀ a b c mv, Done a b c mv → ∃ T, atKey xs [(a : Int), (b : Int), (c : Int), (mv : Int)] = some (T, .bool (f a b c mv)))
    (a : Nat) (ta : Tok) (ha : @LE.le Nat _ a (W 0).length) (hA : ∀ e b c mv, e < a → b ≤ (W 1).length → c ≤ (W 2).length → mv < 2 → Done e b c mv)
    (gs : Array GenState) (dr : Drawn) (os : OsState) (m : Str → Option Value) (h : Heap) (tk : Nat)
    (m_a : m (Str.ofString "a") = some (.int a ta)) (m_counts : m (Str.ofString "counts") = some (.ref cl)) (m_wins : m (Str.ofString "wins") = some (.ref D)) (m_sizes : m (Str.ofString "sizes") = some (.ref sl))
    (F : Fr g L h m) (N : News g L h ((L + 1 + 1 + 1, oh) :: (lh, heardO W tw nh) :: (D, oD) :: R)),
    wpAny (model PySem.Challenge.rw_re0035_01.row.prog w) (Around.deeper ⟨none, dp, fr, gd, u⟩ (envOfC qual scope L 178 cdv)) (execs (forBody (afterFor body)) (envOfC qual scope L 178 cdv))
      (WinsPost PySem.Challenge.rw_re0035_01.row.prog w g L lh D oh (heardO W tw nh) R KK (xs.length + 8 * ((W 1).length + 1)) (fun a' b' c' mv' => (Done a' b' c' mv' ∨ (a' = a ∧ b' < (W 1).length + 1 ∧ c' < (W 2).length + 1 ∧ mv' < 2))) f gs dr os m [Str.ofString "after", Str.ofString "good", Str.ofString "edge", Str.ofString "k", Str.ofString "height", Str.ofString "told", Str.ofString "mover", Str.ofString "c", Str.ofString "b"]) (fun _ _ => False) ⟨h, gs, dr, tk, os⟩ := by
  k_fill
  intro w dp u fr gd g mg mb p loose mean L name qual params body scope dV kV doc pm cdv ct oc an od osl X' T' hroom hu ho lh D oh oD nh W tw R KK hKK xs dh Wn hD hx aD1 aD2 aR cl c0 c1 c2 sl ncl n0 n1 n2 nsl v0 v1 v2 vl z0 z1 z2 hcl hc0 hc1 hc2 hsl i0 i1 i2 il hW e0 e1 e2 f hlaw Done hdone a ta ha hA gs dr os m h tk m_a m_counts m_wins m_sizes F N
  have ho₂ := ho
  obtain ⟨q1, q2, q3, q4⟩ := fn_inj ho (by k_is)
  subst q1 q2 q3 q4
  clear ho
  conv in (execs _ _) => arg 1; whnf
  have hW0 := hW 0 (by decide)
  have hW1 := hW 1 (by decide)
  have hW2 := hW 2 (by decide)
  have N' : News g L h ((sl, listOf vl.toArray nsl) :: (L + 1 + 1 + 1, oh) :: (lh, heardO W tw nh) :: (D, oD) :: R) := news_sub N fun p hp => by
    rcases List.mem_cons.mp hp with rfl | hp
    · exact .tail _ (.tail _ (.tail _ hsl))
    · exact hp
  clear N
  k_steps
  unfold Hold
  (with_reducible rename IsRange _ _ _ _ _ _ _ _ => hR)
  (with_reducible rename News _ _ _ _ => N₁)
  (with_reducible rename Fr _ _ _ _ => F₁)
  refine for_range (n := (W 1).length + 1) (news := (L + 1 + 1 + 1, oh) :: (lh, heardO W tw nh) :: (D, oD) :: R) (J := BLoopJ w L lh D oh W tw nh R KK xs f Done a gs m) rfl rfl rfl F₁ (news_sub N₁ fun p hp => .tail _ hp) hR (by omega) ⟨rfl, oD, xs, [], rfl, Wn, (fun q hq => nomatch hq), Nat.le_refl _, (fun a' b' c' mv' h => hdone _ _ _ _ (h.elim id fun q => absurd q.2.1 (Nat.not_lt_zero _))), fun y hy => rfl⟩ ?_ ?_
  · rintro i t I oI m₁ news₁ gs' h₁ tk₁ hi ⟨rfl, oD', xs', K, rfl, Wn', hK, hlen, hd', g2⟩ hI hI' F₃ N₃
    clear F₁ N₁
    have aI : @Ne Nat I D := Nat.ne_of_gt (hI (D, oD) (.tail _ (.tail _ (.head _))))
    refine wpAny_mono (c_loop X' T' hroom hu ho₂ lh D oh oD' nh W tw ((I, oI) :: (K ++ R)) (K ++ KK) ?_ xs' dh Wn' hD (by omega) aD1 aD2 ?_ cl c0 c1 c2 sl ncl n0 n1 n2 nsl v0 v1 v2 vl z0 z1 z2 (.tail _ (List.mem_append_right _ hcl)) (.tail _ (List.mem_append_right _ hc0)) (.tail _ (List.mem_append_right _ hc1)) (.tail _ (List.mem_append_right _ hc2)) (.tail _ (List.mem_append_right _ hsl)) i0 i1 i2 il hW e0 e1 e2 f hlaw _ hd' a i ta t ha (by omega) (fun e c mv he hc hm => .inl (hA e i c mv he (by omega) hc hm)) (fun e c mv he hc hm => .inr ⟨rfl, he, by omega, hm⟩) gs dr os _ h₁ tk₁ ?_ ?_ ?_ ?_ ?_ F₃ (news_sub N₃ (swap_first _ _))) ?_ fun _ _ y => y
    · intro p hp
      rcases List.mem_append.mp hp with hp | hp
      · exact .tail _ (List.mem_append_left _ hp)
      · exact .tail _ (List.mem_append_right _ (hKK p hp))
    · refine List.forall_mem_cons.mpr ⟨aI, fun p hp => ?_⟩
      rcases List.mem_append.mp hp with hp | hp
      · exact (hK p hp).1
      · exact aR p hp
    · exact (if_neg (by decide)).trans ((g2 _ (by decide)).trans m_a)
    · exact if_pos rfl
    · exact (if_neg (by decide)).trans ((g2 _ (by decide)).trans m_counts)
    · exact (if_neg (by decide)).trans ((g2 _ (by decide)).trans m_wins)
    · exact (if_neg (by decide)).trans ((g2 _ (by decide)).trans m_sizes)
    · rintro f' s' ⟨rfl, m₃, h₃, tk₃, oD₃, xs₃, K₃, rfl, F₅, N₅, Wn₅, hK₅, hlen₅, hd₅, g5⟩
      refine ⟨m₃, _, gs, h₃, tk₃, rfl, F₅, ?_, ?_, (fun _ hb => nomatch hb), rfl, oD₃, xs₃, K₃ ++ K, rfl, ?_, ?_, by omega, ?_, ?_⟩
      · refine news_sub N₅ ?_
        walk_at "my sub"
      · intro p hp
        simp only [List.mem_cons, List.mem_append] at hp
        rcases hp with h | h | h | (h | h) | h
        · rw [h]; exact hI' (L + 1 + 1 + 1, oh) (.head _)
        · rw [h]; exact hI' (lh, _) (.tail _ (.head _))
        · rw [h]; exact Ne.symm aI
        · exact Ne.symm ((hK₅ p h).2 (I, oI) (.head _))
        · exact hI' p (.tail _ (.tail _ (.tail _ (List.mem_append_left _ h))))
        · exact hI' p (.tail _ (.tail _ (.tail _ (List.mem_append_right _ h))))
      · rw [List.append_assoc]; exact Wn₅
      · intro q hq
        rcases List.mem_append.mp hq with hq | hq
        · exact ⟨(hK₅ q hq).1, fun p hp => (hK₅ q hq).2 p (.tail _ (List.mem_append_right _ hp))⟩
        · exact hK q hq
      · intro a' b' c' mv' h
        refine hd₅ a' b' c' mv' ?_
        rcases h with h | ⟨h1, h2, h3, h4⟩
        · exact .inl (.inl h)
        · by_cases e : b' = i
          · exact .inr ⟨h1, e, h3, h4⟩
          · exact .inl (.inr ⟨h1, by omega, h3, h4⟩)
      · intro y hy
        obtain ⟨hy1, hy2⟩ := drop_last (l := [Str.ofString "after", Str.ofString "good", Str.ofString "edge", Str.ofString "k", Str.ofString "height", Str.ofString "told", Str.ofString "mover", Str.ofString "c"]) hy
        exact (g5 y hy1).trans ((if_neg hy2).trans (g2 y hy))
  · rintro m₁ news₁ gs' h₁ tk₁ ⟨rfl, oD', xs', K, rfl, Wn', hK, hlen, hd', g2⟩ F₃ N₃
    clear F₁ N₁
    k_steps
    exact ⟨rfl, m₁, _, _, oD', xs', K, rfl, F₃, N₃, Wn', hK, hlen, hd', g2⟩

inductive ALoopJ (w : World) (L : Addr) (lh : Addr) (D : Addr) (oh : Obj) (W : Nat → Str) (tw : Nat → Tok) (nh : Nat) (R : List (Addr × Obj)) (KK : List (Addr × Obj)) (xs : List (List Int × Addr × Value)) (f : Nat → Nat → Nat → Nat → Bool) (Done : Nat → Nat → Nat → Nat → Prop) (gs : Array GenState) (m : Str → Option Value) (i : Nat) (m' : Str → Option Value) (news : List (Addr × Obj)) (gs' : Array GenState) : Prop
  | mk : (gs = gs') → ∀ oD' xs' K, (news = (L + 1 + 1 + 1, oh) :: (lh, heardO W tw nh) :: (D, oD') :: (K ++ R)) → (WinTab PySem.Challenge.rw_re0035_01.row.prog w oD' xs' (K ++ KK)) → ((∀ q ∈ K, @Ne Nat q.1 D ∧ ∀ p ∈ R, @Ne Nat p.1 q.1)) → (xs'.length ≤ xs.length + 32 * i) → ((∀ a' b' c' mv', (Done a' b' c' mv' ∨ (a' < i ∧ b' < (W 1).length + 1 ∧ c' < (W 2).length + 1 ∧ mv' < 2)) → ∃ T, atKey xs' [(a' : Int), (b' : Int), (c' : Int), (mv' : Int)] = some (T, .bool (f a' b' c' mv')))) → (∀ y, y ∉ [Str.ofString "after", Str.ofString "good", Str.ofString "edge", Str.ofString "k", Str.ofString "height", Str.ofString "told", Str.ofString "mover", Str.ofString "c", Str.ofString "b", Str.ofString "a"] → m' y = m y) → ALoopJ w L lh D oh W tw nh R KK xs f Done gs m i m' news gs'
theorem a_loop : ∀ {w : World} {dp u : Nat} {fr : Option (List Env)} {gd : Option (List Code)} {g : Heap} {mg mb : Str → Option Value} {p : Program} {loose : List Str} {mean : ExcName → Option Value} {L : Addr}
    {name qual : Str} {params : Arguments} {body : List Stmt} {scope : Scope} {dV kV doc pm cdv ct oc : Value} {an od : Option Addr} {osl : Array (Option Value)}
    (X' : (hd.heap_1 w.params).In g) (T' : Top p loose mean mg mb g) (hroom : dp < 400) (hu : u < 4000)
    (ho : (hd.heap_1 w.params).lookup 178 = some ⟨oc, od, .func (fnOf name qual params body scope dV kV doc pm an cdv ct), osl⟩)
    (lh D : Addr) (oh oD : Obj) (nh : Nat) (W : Nat → Str) (tw : Nat → Tok) (R KK : List (Addr × Obj)) (hKK : ∀ p ∈ KK, p ∈ R) (xs : List (List Int × Addr × Value)) (dh : oh.data = .cell (some (.ref lh))) (Wn : WinTab PySem.Challenge.rw_re0035_01.row.prog w oD xs KK) (hD : (D == sysModules) = false)
    (hx : xs.length ≤ 100) (aD1 : @Ne Nat (L + 1 + 1 + 1) D) (aD2 : @Ne Nat lh D) (aR : ∀ p ∈ R, @Ne Nat p.1 D)
    (cl c0 c1 c2 sl : Addr) (ncl n0 n1 n2 nsl : Nat) (v0 v1 v2 vl : List Value) (z0 z1 z2 : List Int) (hcl : (cl, ref3O c0 c1 c2 ncl) ∈ R) (hc0 : (c0, listOf v0.toArray n0) ∈ R) (hc1 : (c1, listOf v1.toArray n1) ∈ R) (hc2 : (c2, listOf v2.toArray n2) ∈ R) (hsl : (sl, listOf vl.toArray nsl) ∈ R)
    (i0 : IntsAre v0 z0) (i1 : IntsAre v1 z1) (i2 : IntsAre v2 z2) (il : IntsAre vl [((W 0).length : Int), ((W 1).length : Int), ((W 2).length : Int)])
    (hW : ∀ j, j < 3 → (W j).length ≤ 3) (e0 : z0.length = (W 0).length + 1) (e1 : z1.length = (W 1).length + 1) (e2 : z2.length = (W 2).length + 1)
    (f : Nat → Nat → Nat → Nat → Bool) (hlaw : WinLaw f W z0 z1 z2) (Done : Nat → Nat → Nat → Nat → Prop) (hdone : ∀ a b c mv, Done a b c mv → ∃ T, atKey xs [(a : Int), (b : Int), (c : Int), (mv : Int)] = some (T, .bool (f a b c mv)))
     
    (gs : Array GenState) (dr : Drawn) (os : OsState) (m : Str → Option Value) (h : Heap) (tk : Nat)
    (m_counts : m (Str.ofString "counts") = some (.ref cl)) (m_wins : m (Str.ofString "wins") = some (.ref D)) (m_sizes : m (Str.ofString "sizes") = some (.ref sl))
    (F : Fr g L h m) (N : News g L h ((L + 1 + 1 + 1, oh) :: (lh, heardO W tw nh) :: (D, oD) :: R)),
    wpAny (model PySem.Challenge.rw_re0035_01.row.prog w) (Around.deeper ⟨none, dp, fr, gd, u⟩ (envOfC qual scope L 178 cdv)) (exec (forStmt (afterFor body)) (envOfC qual scope L 178 cdv))
      (WinsPost PySem.Challenge.rw_re0035_01.row.prog w g L lh D oh (heardO W tw nh) R KK (xs.length + 32 * ((W 0).length + 1)) (fun a' b' c' mv' => (Done a' b' c' mv' ∨ (a' < (W 0).length + 1 ∧ b' < (W 1).length + 1 ∧ c' < (W 2).length + 1 ∧ mv' < 2))) f gs dr os m [Str.ofString "after", Str.ofString "good", Str.ofString "edge", Str.ofString "k", Str.ofString "height", Str.ofString "told", Str.ofString "mover", Str.ofString "c", Str.ofString "b", Str.ofString "a"]) (fun _ _ => False) ⟨h, gs, dr, tk, os⟩ := by
  k_fill
  intro w dp u fr gd g mg mb p loose mean L name qual params body scope dV kV doc pm cdv ct oc an od osl X' T' hroom hu ho lh D oh oD nh W tw R KK hKK xs dh Wn hD hx aD1 aD2 aR cl c0 c1 c2 sl ncl n0 n1 n2 nsl v0 v1 v2 vl z0 z1 z2 hcl hc0 hc1 hc2 hsl i0 i1 i2 il hW e0 e1 e2 f hlaw Done hdone   gs dr os m h tk m_counts m_wins m_sizes F N
  have ho₂ := ho
  obtain ⟨q1, q2, q3, q4⟩ := fn_inj ho (by k_is)
  subst q1 q2 q3 q4
  clear ho
  conv in (exec _ _) => arg 1; whnf
  have hW0 := hW 0 (by decide)
  have hW1 := hW 1 (by decide)
  have hW2 := hW 2 (by decide)
  have N' : News g L h ((sl, listOf vl.toArray nsl) :: (L + 1 + 1 + 1, oh) :: (lh, heardO W tw nh) :: (D, oD) :: R) := news_sub N fun p hp => by
    rcases List.mem_cons.mp hp with rfl | hp
    · exact .tail _ (.tail _ (.tail _ hsl))
    · exact hp
  clear N
  k_steps
  unfold Hold
  (with_reducible rename IsRange _ _ _ _ _ _ _ _ => hR)
  (with_reducible rename News _ _ _ _ => N₁)
  (with_reducible rename Fr _ _ _ _ => F₁)
  refine for_range (n := (W 0).length + 1) (news := (L + 1 + 1 + 1, oh) :: (lh, heardO W tw nh) :: (D, oD) :: R) (J := ALoopJ w L lh D oh W tw nh R KK xs f Done gs m) rfl rfl rfl F₁ (news_sub N₁ fun p hp => .tail _ hp) hR (by omega) ⟨rfl, oD, xs, [], rfl, Wn, (fun q hq => nomatch hq), Nat.le_refl _, (fun a' b' c' mv' h => hdone _ _ _ _ (h.elim id fun q => absurd q.1 (Nat.not_lt_zero _))), fun y hy => rfl⟩ ?_ ?_
  · rintro i t I oI m₁ news₁ gs' h₁ tk₁ hi ⟨rfl, oD', xs', K, rfl, Wn', hK, hlen, hd', g2⟩ hI hI' F₃ N₃
    clear F₁ N₁
    have aI : @Ne Nat I D := Nat.ne_of_gt (hI (D, oD) (.tail _ (.tail _ (.head _))))
    refine wpAny_mono (b_loop X' T' hroom hu ho₂ lh D oh oD' nh W tw ((I, oI) :: (K ++ R)) (K ++ KK) ?_ xs' dh Wn' hD (by omega) aD1 aD2 ?_ cl c0 c1 c2 sl ncl n0 n1 n2 nsl v0 v1 v2 vl z0 z1 z2 (.tail _ (List.mem_append_right _ hcl)) (.tail _ (List.mem_append_right _ hc0)) (.tail _ (List.mem_append_right _ hc1)) (.tail _ (List.mem_append_right _ hc2)) (.tail _ (List.mem_append_right _ hsl)) i0 i1 i2 il hW e0 e1 e2 f hlaw _ hd' i t (by omega) (fun e b c mv he hb hc hm => .inr ⟨he, by omega, by omega, hm⟩) gs dr os _ h₁ tk₁ ?_ ?_ ?_ ?_ F₃ (news_sub N₃ (swap_first _ _))) ?_ fun _ _ y => y
    · intro p hp
      rcases List.mem_append.mp hp with hp | hp
      · exact .tail _ (List.mem_append_left _ hp)
      · exact .tail _ (List.mem_append_right _ (hKK p hp))
    · refine List.forall_mem_cons.mpr ⟨aI, fun p hp => ?_⟩
      rcases List.mem_append.mp hp with hp | hp
      · exact (hK p hp).1
      · exact aR p hp
    · exact if_pos rfl
    · exact (if_neg (by decide)).trans ((g2 _ (by decide)).trans m_counts)
    · exact (if_neg (by decide)).trans ((g2 _ (by decide)).trans m_wins)
    · exact (if_neg (by decide)).trans ((g2 _ (by decide)).trans m_sizes)
    · rintro f' s' ⟨rfl, m₃, h₃, tk₃, oD₃, xs₃, K₃, rfl, F₅, N₅, Wn₅, hK₅, hlen₅, hd₅, g5⟩
      refine ⟨m₃, _, gs, h₃, tk₃, rfl, F₅, ?_, ?_, (fun _ hb => nomatch hb), rfl, oD₃, xs₃, K₃ ++ K, rfl, ?_, ?_, by omega, ?_, ?_⟩
      · refine news_sub N₅ ?_
        walk_at "my sub"
      · intro p hp
        simp only [List.mem_cons, List.mem_append] at hp
        rcases hp with h | h | h | (h | h) | h
        · rw [h]; exact hI' (L + 1 + 1 + 1, oh) (.head _)
        · rw [h]; exact hI' (lh, _) (.tail _ (.head _))
        · rw [h]; exact Ne.symm aI
        · exact Ne.symm ((hK₅ p h).2 (I, oI) (.head _))
        · exact hI' p (.tail _ (.tail _ (.tail _ (List.mem_append_left _ h))))
        · exact hI' p (.tail _ (.tail _ (.tail _ (List.mem_append_right _ h))))
      · rw [List.append_assoc]; exact Wn₅
      · intro q hq
        rcases List.mem_append.mp hq with hq | hq
        · exact ⟨(hK₅ q hq).1, fun p hp => (hK₅ q hq).2 p (.tail _ (List.mem_append_right _ hp))⟩
        · exact hK q hq
      · intro a' b' c' mv' h
        refine hd₅ a' b' c' mv' ?_
        rcases h with h | ⟨h1, h2, h3, h4⟩
        · exact .inl (.inl h)
        · by_cases e : a' = i
          · exact .inr ⟨e, h2, h3, h4⟩
          · exact .inl (.inr ⟨by omega, h2, h3, h4⟩)
      · intro y hy
        obtain ⟨hy1, hy2⟩ := drop_last (l := [Str.ofString "after", Str.ofString "good", Str.ofString "edge", Str.ofString "k", Str.ofString "height", Str.ofString "told", Str.ofString "mover", Str.ofString "c", Str.ofString "b"]) hy
        exact (g5 y hy1).trans ((if_neg hy2).trans (g2 y hy))
  · rintro m₁ news₁ gs' h₁ tk₁ ⟨rfl, oD', xs', K, rfl, Wn', hK, hlen, hd', g2⟩ F₃ N₃
    clear F₁ N₁
    k_steps
    exact ⟨rfl, m₁, _, _, oD', xs', K, rfl, F₃, N₃, Wn', hK, hlen, hd', g2⟩

end Mine
end

end

section
open PySem PySem.W PyProof.Rows PySem.Calls
namespace Mine
theorem StalkW.tries {mk : Nat} {w : List Nat} (x : StalkW mk w) {mv : Nat} (hmv : mv = 0 ∨ mv = 1) : ∃ e, w = textOf mk e ∧ triesOk mk mv e = true := by
  obtain ⟨h1, e, he, rfl⟩ := x
  refine ⟨e, rfl, ?_⟩
  have h := List.all_eq_true.mp tries_ok mk h1
  have h := List.all_eq_true.mp h mv (by rcases hmv with rfl | rfl <;> simp)
  exact List.all_eq_true.mp h e he
theorem StalkW.counts_at {mk : Nat} {w : List Nat} (x : StalkW mk w) {a : Nat} (ha : a ≤ w.length) : (countsOf w mk).getD a 0 = valueOf mk (w.take a) := by
  obtain ⟨e, rfl, h⟩ := x.tries (.inl rfl)
  simp only [triesOk, Bool.and_eq_true] at h
  have := List.all_eq_true.mp h.1.1 a (List.mem_range.mpr (by omega))
  simpa using this
theorem StalkW.tried {mk : Nat} {w : List Nat} (x : StalkW mk w) {mv : Nat} (hmv : mv = 0 ∨ mv = 1) : Tried (sgn mv (valueOf mk w)) ((aftersOf mk mv w).map (sgn mv)) := by
  obtain ⟨e, rfl, h⟩ := x.tries hmv
  simp only [triesOk, Bool.and_eq_true] at h
  obtain ⟨⟨_, h2⟩, h3⟩ := h
  refine ⟨fun y hy => ?_, fun hn => ?_, fun hs => ?_⟩
  · obtain ⟨z, hz, rfl⟩ := List.mem_map.mp hy
    exact of_decide_eq_true (List.all_eq_true.mp h2 z hz)
  · have hn' : aftersOf mk mv (textOf mk e) = [] := by simpa using hn
    rw [hn'] at h3
    simp only [List.isEmpty_nil, if_true, Bool.and_eq_true, decide_eq_true_eq, beq_iff_eq] at h3
    refine ⟨h3.1, ?_⟩
    unfold sgn
    split
    · exact h3.2
    · exact Int.emod_eq_zero_of_dvd (Int.dvd_neg.mpr (Int.dvd_of_emod_eq_zero h3.2))
  · have hs' : (aftersOf mk mv (textOf mk e)).isEmpty = false := by
      cases q : aftersOf mk mv (textOf mk e) with
      | nil => rw [q] at hs; exact absurd rfl hs
      | cons _ _ => rfl
    rw [hs'] at h3
    simp only [Bool.false_eq_true, if_false, List.any_cons, List.any_nil, Bool.or_false, Bool.or_eq_true, Bool.and_eq_true, beq_iff_eq] at h3
    have fin : ∀ u : Int, (u = 1 ∨ u = 2 ∨ u = 4) → valueOf mk (textOf mk e) % u = 0 → ((aftersOf mk mv (textOf mk e)).any fun x => sgn mv x == sgn mv (valueOf mk (textOf mk e)) - u) = true → ∃ u, (u = 1 ∨ u = 2 ∨ u = 4) ∧ sgn mv (valueOf mk (textOf mk e)) % u = 0 ∧ sgn mv (valueOf mk (textOf mk e)) - u ∈ (aftersOf mk mv (textOf mk e)).map (sgn mv) := by
      intro u hu hm ha
      obtain ⟨y, hy, hy2⟩ := List.any_eq_true.mp ha
      refine ⟨u, hu, ?_, List.mem_map.mpr ⟨y, hy, by simpa using hy2⟩⟩
      unfold sgn
      rcases hu with rfl | rfl | rfl <;> (split <;> omega)
    rcases h3 with h | h | h
    · exact fin 1 (.inl rfl) h.1 h.2
    · exact fin 2 (.inr (.inl rfl)) h.1 h.2
    · exact fin 4 (.inr (.inr rfl)) h.1 h.2
theorem mem_afters {mk mv : Nat} {w : List Nat} {a : Nat} (ha : a ≤ w.length) (y : Int) : y ∈ aftersOf mk mv (w.take a) ↔ ∃ e, e < a ∧ ((w.getD e 0 == 32) == (mv == 1)) = true ∧ y = valueOf mk (w.take e) := by
  unfold aftersOf
  simp only [List.mem_map, List.mem_filter, List.mem_range, List.length_take, Nat.min_eq_left ha]
  constructor
  · rintro ⟨e, ⟨he, h⟩, rfl⟩
    refine ⟨e, he, ?_, by rw [List.take_take, Nat.min_eq_left (Nat.le_of_lt he)]⟩
    rw [List.getD_eq_getElem?_getD, List.getElem?_take_of_lt he] at h
    rw [List.getD_eq_getElem?_getD]; exact h
  · rintro ⟨e, he, h, rfl⟩
    refine ⟨e, ⟨he, ?_⟩, by rw [List.take_take, Nat.min_eq_left (Nat.le_of_lt he)]⟩
    rw [List.getD_eq_getElem?_getD, List.getElem?_take_of_lt he]
    rw [List.getD_eq_getElem?_getD] at h; exact h
/-- who wins, by the counts -/
noncomputable def winF (z0 z1 z2 : List Int) (a b c mv : Nat) : Bool := if mv = 0 then decide (0 < z0.getD a 0 + z1.getD b 0 + z2.getD c 0) else decide (z0.getD a 0 + z1.getD b 0 + z2.getD c 0 < 0)
theorem sgn0 (v : Int) : sgn 0 v = v := rfl
theorem sgn1 (v : Int) : sgn 1 v = -v := rfl
theorem winF0 (z0 z1 z2 : List Int) (a b c : Nat) : winF z0 z1 z2 a b c 0 = decide (0 < z0.getD a 0 + z1.getD b 0 + z2.getD c 0) := rfl
theorem winF1 (z0 z1 z2 : List Int) (a b c : Nat) : winF z0 z1 z2 a b c 1 = decide (z0.getD a 0 + z1.getD b 0 + z2.getD c 0 < 0) := rfl
theorem not_win {z0 z1 z2 : List Int} {a b c mv : Nat} (hmv : mv = 0 ∨ mv = 1) : (!winF z0 z1 z2 a b c (1 - mv)) = decide (0 ≤ sgn mv (z0.getD a 0) + sgn mv (z1.getD b 0) + sgn mv (z2.getD c 0)) := by
  rcases hmv with rfl | rfl
  · rw [show 1 - 0 = 1 from rfl, winF1, ← decide_not]
    simp only [sgn0]
    exact decide_eq_decide.mpr (by omega)
  · rw [show 1 - 1 = 0 from rfl, winF0, ← decide_not]
    simp only [sgn1]
    exact decide_eq_decide.mpr (by omega)
theorem is_win {z0 z1 z2 : List Int} {a b c mv : Nat} (hmv : mv = 0 ∨ mv = 1) : winF z0 z1 z2 a b c mv = decide (0 < sgn mv (z0.getD a 0) + sgn mv (z1.getD b 0) + sgn mv (z2.getD c 0)) := by
  rcases hmv with rfl | rfl
  · rw [winF0]
    simp only [sgn0]
    exact decide_eq_decide.mpr Iff.rfl
  · rw [winF1]
    simp only [sgn1]
    exact decide_eq_decide.mpr (by omega)
theorem win_law {ws : Nat → List Nat} {ms : Nat → Nat} {W : Nat → Str} (hst : ∀ j, j < 3 → StalkW (ms j) (ws j)) (hw : ∀ j, (W j).cps.toList = ws j) :
    WinLaw (winF (countsOf (ws 0) (ms 0)) (countsOf (ws 1) (ms 1)) (countsOf (ws 2) (ms 2))) W (countsOf (ws 0) (ms 0)) (countsOf (ws 1) (ms 1)) (countsOf (ws 2) (ms 2)) := by
  intro a b c ha hb hc
  have l : ∀ j, (W j).length = (ws j).length := fun j => by rw [← hw j]; show (W j).cps.size = _; simp
  rw [l] at ha hb hc
  refine ⟨fun mv => rfl, fun mv hmv => ?_⟩
  have hmv : mv = 0 ∨ mv = 1 := by omega
  have s0 := (hst 0 (by decide)).take ha
  have s1 := (hst 1 (by decide)).take hb
  have s2 := (hst 2 (by decide)).take hc
  have g0 := fun (a : Nat) (h : a ≤ (ws 0).length) => (hst 0 (by decide)).counts_at h
  have g1 := fun (a : Nat) (h : a ≤ (ws 1).length) => (hst 1 (by decide)).counts_at h
  have g2 := fun (a : Nat) (h : a ≤ (ws 2).length) => (hst 2 (by decide)).counts_at h
  have tl := try_law (s0.tried hmv) (s1.tried hmv) (s2.tried hmv)
  rw [is_win hmv, g0 a ha, g1 b hb, g2 c hc, Bool.eq_iff_iff, decide_eq_true_eq, ← tl]
  have e3 : List.range 3 = [0, 1, 2] := rfl
  rw [e3]
  simp only [List.any_cons, List.any_nil, Bool.or_false, Bool.or_eq_true, List.any_eq_true, List.mem_range]
  refine or_congr ?_ (or_congr ?_ ?_)
  · constructor
    · rintro ⟨e, he, h⟩
      replace he : e < a := he
      simp only [tryB, Bool.and_eq_true, if_true] at h
      rw [show (if (0 : Nat) = 1 then e else b) = b from rfl, show (if (0 : Nat) = 2 then e else c) = c from rfl, not_win hmv, decide_eq_true_eq, hw 0, g0 e (by omega), g1 b hb, g2 c hc] at h
      exact ⟨_, List.mem_map.mpr ⟨_, (mem_afters ha _).mpr ⟨e, he, h.1, rfl⟩, rfl⟩, h.2⟩
    · rintro ⟨x, hx, h⟩
      obtain ⟨y, hy, rfl⟩ := List.mem_map.mp hx
      obtain ⟨e, he, h1, rfl⟩ := (mem_afters ha y).mp hy
      refine ⟨e, he, ?_⟩
      simp only [tryB, Bool.and_eq_true, if_true]
      rw [show (if (0 : Nat) = 1 then e else b) = b from rfl, show (if (0 : Nat) = 2 then e else c) = c from rfl, not_win hmv, decide_eq_true_eq, hw 0, g0 e (by omega), g1 b hb, g2 c hc]
      exact ⟨h1, h⟩
  · constructor
    · rintro ⟨e, he, h⟩
      replace he : e < b := he
      simp only [tryB, Bool.and_eq_true, if_true] at h
      rw [show (if (1 : Nat) = 0 then e else a) = a from rfl, show (if (1 : Nat) = 2 then e else c) = c from rfl, not_win hmv, decide_eq_true_eq, hw 1, g0 a ha, g1 e (by omega), g2 c hc] at h
      exact ⟨_, List.mem_map.mpr ⟨_, (mem_afters hb _).mpr ⟨e, he, h.1, rfl⟩, rfl⟩, h.2⟩
    · rintro ⟨x, hx, h⟩
      obtain ⟨y, hy, rfl⟩ := List.mem_map.mp hx
      obtain ⟨e, he, h1, rfl⟩ := (mem_afters hb y).mp hy
      refine ⟨e, he, ?_⟩
      simp only [tryB, Bool.and_eq_true, if_true]
      rw [show (if (1 : Nat) = 0 then e else a) = a from rfl, show (if (1 : Nat) = 2 then e else c) = c from rfl, not_win hmv, decide_eq_true_eq, hw 1, g0 a ha, g1 e (by omega), g2 c hc]
      exact ⟨h1, h⟩
  · constructor
    · rintro ⟨e, he, h⟩
      replace he : e < c := he
      simp only [tryB, Bool.and_eq_true, if_true] at h
      rw [show (if (2 : Nat) = 0 then e else a) = a from rfl, show (if (2 : Nat) = 1 then e else b) = b from rfl, not_win hmv, decide_eq_true_eq, hw 2, g0 a ha, g1 b hb, g2 e (by omega)] at h
      exact ⟨_, List.mem_map.mpr ⟨_, (mem_afters hc _).mpr ⟨e, he, h.1, rfl⟩, rfl⟩, h.2⟩
    · rintro ⟨x, hx, h⟩
      obtain ⟨y, hy, rfl⟩ := List.mem_map.mp hx
      obtain ⟨e, he, h1, rfl⟩ := (mem_afters hc y).mp hy
      refine ⟨e, he, ?_⟩
      simp only [tryB, Bool.and_eq_true, if_true]
      rw [show (if (2 : Nat) = 0 then e else a) = a from rfl, show (if (2 : Nat) = 1 then e else b) = b from rfl, not_win hmv, decide_eq_true_eq, hw 2, g0 a ha, g1 b hb, g2 e (by omega)]
      exact ⟨h1, h⟩
end Mine
end

section
open PySem PySem.W PyProof.Rows PySem.Calls
local macro_rules | `(tactic| walk_at "call ref") => `(tactic| refine hold ?_)
local macro_rules | `(tactic| walk_at "call ref nil") => `(tactic| refine hold ?_)
local macro_rules | `(tactic| walk_at "call builtin:list.append") => `(tactic| refine hold ?_)
local macro_rules | `(tactic| walk_at "pyIter ref") => `(tactic| refine hold ?_)
local macro_rules | `(tactic| walk_at "execs nil") => `(tactic| refine wpAny_execs_nil ?_)

section
open PySem PySem.W PyProof.Rows PySem.Calls
local macro_rules | `(tactic| walk_at "call ref cons nil") => `(tactic| refine hold ?_)
local macro_rules | `(tactic| walk_at "call type:str") => `(tactic| refine hold ?_)
local macro_rules | `(tactic| walk_at "getMethod ref") => `(tactic| ((first | (with_reducible show wpAny _ _ (getMethod _ (Str.ofString "is_onlyws") _) _ _ _) | (with_reducible show wpAny _ _ (getMethod _ (Str.ofString "pop_from") _) _ _ _) | (with_reducible show wpAny _ _ (getMethod _ (Str.ofString "part_count") _) _ _ _)); refine hold ?_))
local macro_rules | `(tactic| walk_at "exec For Name Call cons nil") => `(tactic| ((with_unfolding_all (refine wpAny_For ?_)); refine hold ?_))
local macro_rules | `(tactic| walk_at "subscriptTail Name Name ref int") => `(tactic| ((with_reducible rename News _ _ _ _ => aN); refine item_at (aN.isList (by k_mem)) (by first | assumption | exact suf_at (by assumption)) (by omega) ?_))
local macro_rules | `(tactic| walk_at "subscriptTail Name UnaryOp") => `(tactic| (refine item_list_ints_neg (News.isList (by assumption) (by k_mem)) (by assumption) (by decide) (by omega) (by decide) ?_; intro _))
local macro_rules | `(tactic| walk_at "execs cons") => `(tactic| ((with_reducible refine wpAny_execs_cons ?_); try dsimp only))
local macro_rules | `(tactic| walk_at "call builtin:str.replace") => `(tactic| (refine wpAny_with_toks (Nat.le_refl _) ?_; refine SC.replaceW (by first | assumption | (show @Ne Nat _ _; omega)) (by show @Ne Nat _ _; omega) (by show @Ne Nat _ _; omega) (by first | assumption | decide) (by first | omega | (show (List.toArray _).size ≤ _; simp; omega)) (by decide) ?_; intro _ _ htk9; (try dsimp only at htk9)))
local macro_rules | `(tactic| walk_at "binaryOp Add str str") => `(tactic| (refine wpAny_with_toks (Nat.le_refl _) ?_; refine SBL.add (hsz := by (rw [sizeLine_eq]; omega)) ?_; intro _ _ _ htk9; (try dsimp only at htk9)))
local macro_rules | `(tactic| walk_at "subscriptTail List Name") => `(tactic| ((with_reducible rename News _ _ _ _ => aN); refine item_at (aN.isList (by k_mem)) (suf_at (by assumption)) (by omega) ?_))
local macro_rules | `(tactic| walk_at "call builtin:abs") => `(tactic| (refine wpAny_with_toks (Nat.le_refl _) ?_; (with_reducible refine call_abs_int ?_); intro _ _ htk9; (try dsimp only at htk9)))
local macro_rules | `(tactic| walk_at "call builtin:min") => `(tactic| refine hold ?_)

section
open PySem PySem.W PyProof.Rows PySem.Calls
namespace Mine
local macro_rules | `(tactic| walk_at "eval IfExp") => `(tactic| refine hold ?_)
structure PlayNe (ls lm lh M : Addr) (T : List (Addr × Obj)) : Prop where
  x1 : @Ne Nat ls 77
  x2 : @Ne Nat lm 77
  x3 : @Ne Nat lh 77
  x4 : @Ne Nat M 77
  y1 : @Ne Nat ls 70
  y2 : @Ne Nat lm 70
  y3 : @Ne Nat lh 70
  y4 : @Ne Nat M 70
  t77 : ∀ p ∈ T, @Ne Nat p.1 77
  t70 : ∀ p ∈ T, @Ne Nat p.1 70
  tM : ∀ p ∈ T, @Ne Nat p.1 M
theorem play_ne {g h : Heap} {L I M ls lm lh : Addr} {oI om oh p77 p70 : Obj} {items : Array Value} {n ns nm : Nat} {as : Nat → Addr} {ms : Nat → Nat} {mt : Nat → Tok} {T : List (Addr × Obj)}
    (N : News g L h ((I, oI) :: (M, listOf items n) :: (ls, refsO as ns) :: (L + 1 + 1, om) :: (lh, oh) :: (lm, marksO ms mt nm) :: (77, p77) :: (70, p70) :: T)) (u77 : TabIs p77) (u70 : TabIs p70) (hohd : ∀ q, oh.data ≠ .fields q) (hsol : ∀ p ∈ T, Solid p.2) : PlayNe ls lm lh M T := by
  have q77 := fun (p : Addr × Obj) hp => tab_ne N (P := 77) (o := p77) (by k_mem) u77 (p := p) hp
  have q70 := fun (p : Addr × Obj) hp => tab_ne N (P := 70) (o := p70) (by k_mem) u70 (p := p) hp
  have hTin : ∀ p ∈ T, p ∈ (I, oI) :: (M, listOf items n) :: (ls, refsO as ns) :: (L + 1 + 1, om) :: (lh, oh) :: (lm, marksO ms mt nm) :: (77, p77) :: (70, p70) :: T := fun p hp => (by
    repeat (refine .tail _ ?_)
    exact hp)
  exact ⟨q77 (ls, refsO as ns) (by k_mem) (fun q e => by cases e), q77 (lm, marksO ms mt nm) (by k_mem) (fun q e => by cases e), q77 (lh, oh) (by k_mem) hohd, q77 (M, listOf items n) (by k_mem) (fun q e => by cases e),
    q70 (ls, refsO as ns) (by k_mem) (fun q e => by cases e), q70 (lm, marksO ms mt nm) (by k_mem) (fun q e => by cases e), q70 (lh, oh) (by k_mem) hohd, q70 (M, listOf items n) (by k_mem) (fun q e => by cases e),
    fun p hp => q77 p (hTin p hp) (hsol p hp).1, fun p hp => q70 p (hTin p hp) (hsol p hp).1, fun p hp => ne_obj N (M := M) (o := listOf items n) (by k_mem) (hTin p hp) (hsol p hp).ne_list⟩
theorem play_forturn : ∀ {w : World} {dp u : Nat} {fr : Option (List Env)} {gd : Option (List Code)} {g : Heap} {mg mb : Str → Option Value} {p : Program} {loose : List Str} {mean : ExcName → Option Value} {L : Addr}
    {name qual : Str} {params : Arguments} {body : List Stmt} {scope : Scope} {dV kV doc pm cdv ct oc : Value} {an od : Option Addr} {osl : Array (Option Value)}
    (X' : (hd.heap_1 w.params).In g) (T' : Top p loose mean mg mb g) (hroom : dp < 400) (hu : u < 3000)
    (ho : (hd.heap_1 w.params).lookup 173 = some ⟨oc, od, .func (fnOf name qual params body scope dV kV doc pm an cdv ct), osl⟩)
    (as : Nat → Addr) (ms : Nat → Nat) (ws : Nat → List Nat) (mv : Nat) (due : Int) (ls lm lh M I : Addr) (om oh oI : Obj) (ns nm : Nat) (mt : Nat → Tok) (A tups : List (Addr × Obj)) (tv td : Tok) (hmt0 : ∀ j, j < 3 → mt j ≠ 0) (hL : @LT.lt Nat _ 77 L) (c77 : CodeKnown g 81 77) (c70 : CodeKnown g 74 70)
    (hohd : ∀ q, oh.data ≠ .fields q) (dm : om.data = .cell (some (.ref lm))) (hmv : mv = 0 ∨ mv = 1) (hw : ∀ j, j < 3 → StalkW (ms j) (ws j)) (hA : ∀ j, j < 3 → HasStalk A tups (as j) (ws j)) (hAd : ∀ p ∈ A ++ tups, Solid p.2)
    (l1 : @LT.lt Nat _ ls M ∧ @LT.lt Nat _ (L + 1 + 1) M ∧ @LT.lt Nat _ lh M ∧ @LT.lt Nat _ lm M ∧ @LT.lt Nat _ 77 M ∧ @LT.lt Nat _ 70 M) (hMI : @LT.lt Nat _ M I) (hI77 : @LT.lt Nat _ 77 I)
    (i : Nat) (ti : Tok) (m₂ : Str → Option Value) (news₂ : List (Addr × Obj)) (gs₂ : Array GenState) (h₅ : Heap) (tk₅ : Nat) (d₀ : Drawn) (os₀ : OsState) (Q : Flow → Shared → Prop) (hi3 : @LT.lt Nat _ i 3) (J : ForJ L ls lm lh M om oh ns nm as ms mt A tups ws mv due tv td i m₂ news₂ gs₂ tk₅) (hne : ∀ p ∈ news₂, p.1 ≠ I)
    (F₂ : Fr g L h₅ (fun y => if y = Str.ofString "k" then some (.int (i : Nat) ti) else m₂ y)) (N₂ : News g L h₅ ((I, oI) :: news₂)),
    wpAny (model PySem.Challenge.rw_re0035_01.row.prog w) (Around.deeper ⟨none, dp, fr, gd, u⟩ (envOfC qual scope L 173 cdv)) (execs (forBody (whileBody body)) (envOfC qual scope L 173 cdv))
      (TurnEndT g L I oI [] h₅ d₀ os₀ (ForJ L ls lm lh M om oh ns nm as ms mt A tups ws mv due tv td (i + 1)) Q) (fun _ _ => False) ⟨h₅, gs₂, d₀, tk₅, os₀⟩ := by
  k_fill
  intro w dp u fr gd g mg mb p loose mean L name qual params body scope dV kV doc pm cdv ct oc an od osl X' T' hroom hu ho as ms ws mv due ls lm lh M I om oh oI ns nm mt A tups tv td hmt0 hL c77 c70 hohd dm hmv hw hA hAd l1 hMI hI77 i ti m₂ news₂ gs₂ h₅ tk₅ d₀ os₀ Q hi3 J hne F₂ N₂
  refine hideQ fun Q' hQ' => ?_
  obtain ⟨hT₅, G₂, e1, e2, e3, e4, ⟨tt, e5⟩, items, n, MT, p77, p70, rfl, u77, u70, hMT, hMd⟩ := J
  obtain ⟨q1, q2, q3, q4⟩ := fn_inj ho (by k_is)
  subst q1 q2 q3 q4
  clear ho
  conv in (execs _ _) => arg 1; whnf
  have hS : (#[.ref (as 0), .ref (as 1), .ref (as 2)] : Array Value)[i]? = some (.ref (as i)) := three_at (f := fun j => .ref (as j)) hi3
  have hK : (#[.str ⟨#[ms 0]⟩ (mt 0), .str ⟨#[ms 1]⟩ (mt 1), .str ⟨#[ms 2]⟩ (mt 2)] : Array Value)[i]? = some (.str ⟨#[ms i]⟩ (mt i)) := three_at (f := fun j => .str ⟨#[ms j]⟩ (mt j)) hi3
  obtain ⟨d, its, n1, n2, hs, t1, t2, ha, hd, hts⟩ := hA i hi3
  have W := hw i hi3
  have hsol : ∀ p ∈ MT ++ (A ++ tups), Solid p.2 := fun p hp => (List.mem_append.mp hp).elim (hMd p) (hAd p)
  have PN := play_ne N₂ u77 u70 hohd hsol
  have x1 := PN.x1
  have x2 := PN.x2
  have x3 := PN.x3
  have x4 := PN.x4
  have y1 := PN.y1
  have y2 := PN.y2
  have y3 := PN.y3
  have y4 := PN.y4
  have hT77 := PN.t77
  have hT70 := PN.t70
  have hTM := PN.tM
  have hga : g.get? (as i) = none := (N₂ (as i, accObj d its n1) (by walk_at "my mem")).2.2
  have hgd : g.get? d = none := (N₂ (d, accDict hs t1 t2 n2) (by walk_at "my mem")).2.2
  have h77 : g.get? 77 = none := (N₂ (77, p77) (by k_mem)).2.2
  have h70 : g.get? 70 = none := (N₂ (70, p70) (by k_mem)).2.2
  have hz : its.size ≤ 1000 := by rw [hts.1]; have := W.len; omega
  clear PN
  k_steps
  unfold Hold
  (with_reducible rename News _ _ _ _ => N₃)
  (with_reducible rename Fr _ _ _ _ => F₃)
  obtain ⟨qs, hC⟩ := c77.here F₃ N₃ (by k_mem) u77
  refine wpAny_with_toks (n := tk₅) (by dsimp only; omega) ?_
  refine acc_str X' T' F₃.keep (by dsimp only; omega) (by dsimp only; omega) (as i) d its n1 n2 hs t1 t2 ((ws i).map pairOf) qs (N₃.get (by walk_at "my mem")) (N₃.get (by walk_at "my mem")) hga hgd hz (hts.pairs (news_sub N₃ (fun p hp => by walk_at "my mem"))) hC h77 G₂ ?_
  rintro te ⟨h₆, gs₆, dr₆, tk₆, os₆⟩ G₆ ho₆ hdr₆ hk₆ hC₆
  intro ht₆
  dsimp only at G₆ ho₆ hdr₆ hk₆ hC₆ ht₆
  subst ho₆ hdr₆
  obtain ⟨q77, hq77, v77⟩ := tab_of_code hC₆
  obtain ⟨F₆, N₆⟩ := over_upd (o' := q77) F₃ N₃ (by walk_at "my upd") hL hk₆ hq77
  clear F₃ N₃ hC hC₆ hk₆ hq77
  rw [pairText_of]
  k_steps
  unfold Hold
  (with_reducible rename News _ _ _ _ => N₇)
  (with_reducible rename Fr _ _ _ _ => F₇)
  refine wpAny_with_toks (n := tk₅) (by dsimp only; omega) ?_
  refine counts_c X' T' F₇.keep (by dsimp only; omega) _ _ _ _ W.len ?_
  intro q vs nq h₇ tk₇ hq0 hq hqi hk₇ ht₇
  dsimp only at ht₇
  replace hqi : IntsAre vs (countsOf (ws i) (ms i)) := hqi
  have F₈ := F₇.keeps hk₇
  have N₈ := news_add F₇ hq0 hq (N₇.grown hk₇)
  have wq := new_ne N₇ hq0
  have z1 : @Ne Nat q 77 := fun e => wq (77, q77) (by k_mem) e.symm
  have z2 : @Ne Nat q 70 := fun e => wq (70, p70) (by k_mem) e.symm
  have z3 : @Ne Nat q M := fun e => wq (M, listOf items n) (by k_mem) e.symm
  have z4 : @Ne Nat q I := fun e => wq (I, oI) (by k_mem) e.symm
  have hlen := counts_len _ _ _ hqi
  clear F₇ N₇ wq hq0 hq hk₇
  k_steps
  unfold Hold
  (with_reducible rename News _ _ _ _ => N₉)
  (with_reducible rename Fr _ _ _ _ => F₉)
  refine acc_method (X'.keeps F₉.keep) (N₉.get (by walk_at "my mem")) (N₉.get (by walk_at "my mem")) (by k_is) (by k_is) rfl ?_
  k_steps
  unfold Hold
  (with_reducible rename News _ _ _ _ => N₁)
  (with_reducible rename Fr _ _ _ _ => F₁)
  obtain ⟨qs, hC⟩ := c77.here F₁ N₁ (by k_mem) v77
  obtain ⟨qr, hR⟩ := c70.here F₁ N₁ (by k_mem) u70
  refine wpAny_with_toks (n := tk₅) (by dsimp only; omega) ?_
  refine ws_c X' T' F₁.keep (by dsimp only; omega) (by dsimp only; omega) (as i) d its n1 n2 hs t1 t2 ((ws i).map pairOf) qs qr (N₁.get (by walk_at "my mem")) (N₁.get (by walk_at "my mem")) hga hgd hz (hts.pairs (news_sub N₁ (fun p hp => by walk_at "my mem"))) hC h77 hR h70 G₆ (pairOf_one _) ?_
  rintro ⟨hc, gc, dc, tkc, osc⟩ Gc hoc hdc hkc hCc hRc
  intro htc
  dsimp only at Gc hoc hdc hkc hCc hRc htc
  subst hoc hdc
  obtain ⟨c1, hc1, v1⟩ := tab_of_code hCc
  obtain ⟨c2, hc2, v2⟩ := tab_of_code hRc
  obtain ⟨Fc, Nc⟩ := over_upd2 (o' := c1) (r' := c2) (P := 77) (R := 70) F₁ N₁ (by walk_at "my upd") (by walk_at "my upd") hL (by omega) (by decide) hkc hc1 hc2
  clear F₁ N₁ hC hR hCc hRc hkc hc1 hc2
  rw [pairText_of]
  obtain ⟨k1, k2, k3, k4⟩ := W.ok2 hmv
  have hm0 := hmt0 i hi3
  have hm1 := hT₅ i hi3
  have hwl := W.len
  have hsl := suf_len i
  have k5 : ((if mv = 0 then (⟨#[ms i]⟩ : Str) else Str.ofString " ") == Str.ofString ".") = false := by
    rcases hmv with rfl | rfl
    · exact k4
    · show (Str.ofString " " == Str.ofString ".") = false
      decide
  replace k3 : (Txt.replace ⟨(ws i).toArray⟩ (if mv = 0 then (⟨#[ms i]⟩ : Str) else Str.ofString " ") (Str.ofString ".")).length ≤ 3 := k3
  replace k2 : (!(Builtin.Str.occurrences (Txt.replace ⟨(ws i).toArray⟩ (if mv = 0 then (⟨#[ms i]⟩ : Str) else Str.ofString " ") (Str.ofString ".")) (Str.ofString ".") 0 (Txt.replace ⟨(ws i).toArray⟩ (if mv = 0 then (⟨#[ms i]⟩ : Str) else Str.ofString " ") (Str.ofString ".")).length 1).isEmpty) = ownOf' (ms i) mv (ws i) := k2
  k_steps
  unfold Hold
  refine join_exp (fun v tk' => ∃ tv : Nat, v = .str (if mv = 0 then (⟨#[ms i]⟩ : Str) else Str.ofString " ") tv ∧ tv ≠ 0 ∧ tv < tk') ?_ ?_
  · refine IfExp_ ?_
    rcases hmv with rfl | rfl
    · k_steps
      exact ⟨⟨_, by dsimp only; omega, rfl, _, rfl, hm0, by dsimp only; omega⟩⟩
    · k_steps
      exact ⟨⟨_, by dsimp only; omega, rfl, _, rfl, by show @Ne Nat _ _; dsimp only; omega, by dsimp only; omega⟩⟩
  rintro v tkj hlj ⟨tvj, rfl, hv0, hv1⟩
  dsimp only at hlj ⊢
  k_steps
  · rename _ = true => hb
    rw [hb] at k2
    replace k2 := k2.symm
    (with_reducible rename News _ _ _ _ => N₂)
    (with_reducible rename Fr _ _ _ _ => F₂)
    rw [tot_next] at F₂
    refine hQ'.of _ _ ?_
    refine turn_endT (news' := (M, listOf items n) :: (ls, refsO as ns) :: (L + 1 + 1, om) :: (lh, oh) :: (lm, marksO ms mt nm) :: (77, c1) :: (70, c2) :: (MT ++ (A ++ tups))) F₂ N₂ ?_ ?_ (fun _ hb => nomatch hb) ⟨fun j hj => Nat.lt_of_lt_of_le (hT₅ j hj) (by dsimp only; omega), Gc, e1, e2, e3, e4, ⟨_, rfl⟩, items, n, MT, c1, c2, rfl, v1, v2, moves_not k2 hMT, hMd⟩
    · exact fun p hp => .tail _ hp
    · iterate 5 (refine List.forall_mem_cons.mpr ⟨hne _ (by k_mem), ?_⟩)
      refine List.forall_mem_cons.mpr ⟨hne (77, p77) (by k_mem), List.forall_mem_cons.mpr ⟨hne (70, p70) (by k_mem), fun p hp => hne p ?_⟩⟩
      iterate 7 (refine .tail _ ?_)
      exact hp
  unfold Hold
  rename _ = false => hb
  rw [hb] at k2
  replace k2 := k2.symm
  have hwp := own_pos k2
  (with_reducible rename News _ _ _ _ => N₂)
  (with_reducible rename Fr _ _ _ _ => F₂)
  refine wpAny_with_toks (Nat.le_refl _) ?_
  refine strip_c X' T' F₂.keep (by dsimp only; omega) _ _ (by rw [str_add_len]; omega) ?_
  intro y ty h₈ tk₈ hy hk₈ ht₈
  dsimp only at ht₈
  have hsz := size_is (mk := ms i) (mv := mv) (k := i) (w := ws i) hy
  have hown := W.own (k := i) hmv hi3 k2
  have hyl : y.length ≤ 1000 := by omega
  have F₃ := F₂.keeps hk₈
  have N₃ := N₂.grown hk₈
  clear F₂ N₂ hk₈
  k_steps
  unfold Hold
  (with_reducible rename News _ _ _ _ => N₄)
  (with_reducible rename Fr _ _ _ _ => F₄)
  rw [move_eq hwp hsz] at N₄
  rw [tot_next] at F₄
  rename _ ∧ _ => l2
  have hIT := l2.2.2
  refine append_K F₄ N₄ (by walk_at "my upd") ?_ (by rw [sizeLine_eq, hMT.1]; have := movesOf_len ms ws mv i; omega)
  intro h₉ F₅ N₅
  clear F₄ N₄
  k_steps
  (with_reducible rename News _ _ _ _ => N₆)
  (with_reducible rename Fr _ _ _ _ => F₆)
  refine hQ'.of _ _ ?_
  refine' turn_endT F₆ N₆ ?hs ?hne (fun _ hb => nomatch hb) ⟨fun j hj => Nat.lt_of_lt_of_le (hT₅ j hj) (by dsimp only; omega), Gc, e1, e2, e3, e4, ⟨_, rfl⟩, _, n + 1, _, c1, c2, rfl, v1, v2, moves_own k2 hMT, List.forall_mem_cons.mpr ⟨solid_move, hMd⟩⟩
  case hs =>
    iterate 8 (refine List.forall_mem_cons.mpr ⟨by k_mem, ?_⟩)
    rw [List.cons_append]
    refine List.forall_mem_cons.mpr ⟨by k_mem, fun p hp => ?_⟩
    iterate 11 (refine .tail _ ?_)
    exact hp
  case hne =>
    refine List.forall_mem_cons.mpr ⟨hne (M, listOf items n) (by k_mem), ?_⟩
    iterate 4 (refine List.forall_mem_cons.mpr ⟨hne _ (by k_mem), ?_⟩)
    refine List.forall_mem_cons.mpr ⟨hne (77, p77) (by k_mem), List.forall_mem_cons.mpr ⟨hne (70, p70) (by k_mem), ?_⟩⟩
    rw [List.cons_append]
    refine List.forall_mem_cons.mpr ⟨by k_ne, fun p hp => hne p ?_⟩
    iterate 7 (refine .tail _ ?_)
    exact hp

end Mine
end

section
open PySem PySem.W PyProof.Rows PySem.Calls
namespace Mine
theorem play_turn : ∀ {w : World} {dp u : Nat} {fr : Option (List Env)} {gd : Option (List Code)} {g : Heap} {mg mb : Str → Option Value} {s : Shared} {p : Program} {loose : List Str} {mean : ExcName → Option Value} {m₀ : Str → Option Value} {L : Addr}
    {name qual : Str} {params : Arguments} {body : List Stmt} {scope : Scope} {dV kV doc pm cdv ct oc : Value} {an od : Option Addr} {osl : Array (Option Value)}
    (X' : (hd.heap_1 w.params).In g) (T' : Top p loose mean mg mb g) (hroom : dp < 400) (hu : u < 3000)
    (ho : (hd.heap_1 w.params).lookup 173 = some ⟨oc, od, .func (fnOf name qual params body scope dV kV doc pm an cdv ct), osl⟩)
    (as : Nat → Addr) (ms : Nat → Nat) (ls lm lh : Addr) (om oh : Obj) (ns nm : Nat) (mt : Nat → Tok) (hmt0 : ∀ j, j < 3 → mt j ≠ 0) (tups : List (Addr × Obj)) (win : Int) (kk : Nat) (hL : @LT.lt Nat _ 77 L) (c77 : CodeKnown g 81 77) (c70 : CodeKnown g 74 70)
    (hohd : ∀ q, oh.data ≠ .fields q) (hoha : ∀ d its n, oh ≠ accObj d its n) (htup : ∀ p ∈ tups, p.2.cls = .type "tuple") (dm : om.data = .cell (some (.ref lm))) (hinj : ∀ i j, i < 3 → j < 3 → as i = as j → i = j) (I : PlayInv g L ls lm lh om oh ns nm as ms mt tups win s.drawn s.os kk s),
    wpAny (model PySem.Challenge.rw_re0035_01.row.prog w) (Around.deeper ⟨none, dp, fr, gd, u⟩ (envOfC qual scope L 173 cdv)) (execs (whileBody body) (envOfC qual scope L 173 cdv))
      (PlayPost g L ls lm lh om oh ns nm as ms mt tups win s.drawn s.os kk) (fun _ _ => False) s := by
  k_fill
  intro w dp u fr gd g mg mb s p loose mean m₀ L name qual params body scope dV kV doc pm cdv ct oc an od osl X' T' hroom hu ho as ms ls lm lh om oh ns nm mt hmt0 tups win kk hL c77 c70 hohd hoha htup dm hinj I
  refine hideQ fun Q' hQ' => ?_
  obtain ⟨m, A, ws, mv, due, tv, td, o77, o70, F', N', t77, t70, hA, hAd, m1, m2, m3, hmv, hw, hdue, G, hmt, _, _, hwin, hkk⟩ := I
  obtain ⟨e1, e2, e3, e4⟩ := fn_inj ho (by k_is)
  subst e1 e2 e3 e4
  conv in (execs _ _) => arg 1; whnf
  k_steps
  unfold Hold
  refine wpAny_with_toks (n := s.toks) (by dsimp only; omega) ?_
  k_steps
  (with_reducible rename News _ _ _ _ => N₁)
  (with_reducible rename Fr _ _ _ _ => F₁)
  (with_reducible rename IsRange _ _ _ _ _ _ _ _ => hR)
  rename_i M h3 l1 h2 h1 F0 N0 h4 tk4 ta tb tc kx ht₀
  clear F0 N0
  dsimp only at ht₀
  refine for_rangeT (J := ForJ L ls lm lh M om oh ns nm as ms mt A tups ws mv due tv td) rfl rfl rfl F₁ N₁ hR (by decide) (fun i m n g t t' ht h => by
    obtain ⟨h1, h2, h3, h4, h5, h6, h7, q1, q2, q3, q4, q5, h8, h9, h10, h11, h12⟩ := h
    exact ⟨fun j hj => Nat.lt_of_lt_of_le (h1 j hj) ht, h2, h3, h4, h5, h6, h7, q1, q2, q3, q4, q5, h8, h9, h10, h11, h12⟩) ?_ ?_ ?_
  · exact ⟨fun j hj => by have := hmt j hj; dsimp only; omega, G, m1, m2, m3, rfl, ⟨_, rfl⟩, #[], 0, [], o77, o70, rfl, t77, t70, ⟨rfl, fun j x e => by simp [movesOf] at e⟩, fun p hp => nomatch hp⟩
  · intro i ti I oI m₂ news₂ gs₂ h₅ tk₅ hi J hlt hne F₂ N₂
    exact play_forturn X' T' hroom hu ho as ms ws mv due ls lm lh M I om oh oI ns nm mt A tups tv td hmt0 hL c77 c70 hohd dm hmv hw hA hAd ⟨l1.1, l1.2.1, l1.2.2.1, l1.2.2.2.1, l1.2.2.2.2.1, l1.2.2.2.2.2.1⟩ (hlt (M, listOf #[] 0) (.head _)) (hlt (77, o77) (by k_mem)) i ti m₂ news₂ gs₂ h₅ tk₅ s.drawn s.os _ hi J hne F₂ N₂
  · rintro m₂ news₂ gs₂ h₅ tk₅ ⟨hT₅, G₂, e1, e2, e3, e4, ⟨tt, e5⟩, items, n, MT, p77, p70, rfl, u77, u70, hMT, hMd⟩ F₂ N₂
    clear F₁ N₁
    rw [← hdue] at e5
    k_steps
    all_goals first | exact absurd rfl (by assumption : due ≠ due) | skip
    (with_reducible rename News _ _ _ _ => N₃)
    (with_reducible rename Fr _ _ _ _ => F₃)
    cases hmvs : movesOf ms ws mv 3 with
    | nil =>
      have hi0 : items = #[] := by have := hMT.1; rw [hmvs] at this; exact Array.eq_empty_of_size_eq_zero this
      subst hi0
      refine SeqAt.eq_listAt (e := fun _ => true) (N₃.isList (items := #[]) (by k_mem)) (N₃.isList (items := #[]) (by k_mem)) rfl (by simp only [units_in1, units_deeper]; unfold cLine; omega) (fun j h1 _ => absurd h1 (Nat.not_lt_zero _)) ?_
      k_steps
      (with_reducible rename News _ _ _ _ => N₄)
      (with_reducible rename Fr _ _ _ _ => F₄)
      refine hQ'.of _ _ ?_
      show PlayEnd g L lm lh oh nm ms mt win s.drawn s.os _ _
      have hval : (1 - (mv : Int)) = win := by rw [← hwin, hdue, play_end hmv hw hmvs]
      refine ⟨_, _, p77, p70, congrArg (fun z => Value.int z _) hval, F₄, news_sub N₄ ?_, u77, u70, G₂, rfl, rfl⟩
      · iterate 4 (refine List.forall_mem_cons.mpr ⟨by k_mem, ?_⟩)
        exact List.forall_mem_nil _
    | cons x0 xr =>
      have hi1 : items.size = xr.length + 1 := by have := hMT.1; rw [hmvs] at this; exact this
      refine SeqAt.eq_list_lengthsAt (N₃.isList (by k_mem)) (N₃.isList (by k_mem)) (by rw [hi1]; rfl) (by simp only [units_in1, units_deeper]; unfold cLine; omega) ?_
      k_steps
      unfold Hold
      (with_reducible rename News _ _ _ _ => N₄)
      (with_reducible rename Fr _ _ _ _ => F₄)
      refine wpAny_with_toks (Nat.le_refl _) ?_
      refine play_min rfl (by simp only [units_in1, units_deeper]; unfold cLine; omega) (N₄.isList (by k_mem)) hMT (by rw [hmvs]; exact List.cons_ne_nil _ _) (moves_ks ms ws mv 3).1 (fun p hp => (N₄ p (by walk_at "my mem")).1) ?_
      intro T x t1 t2 t3 nT h₆ tk₆ hx hmin hTx hk₆ ht₆
      dsimp only at ht₆
      obtain ⟨k, hk3, hown, rfl⟩ := moves_mem hx
      have hst := play_step hmv hw hk3 hown hmin
      obtain ⟨hsz, hv1, hu1, hu2⟩ := (hw k hk3).own hmv hk3 hown
      have F₅ := F₄.keeps hk₆
      have N₅ : News g L h₆ ((T, _) :: _) := List.forall_mem_cons.mpr ⟨N₄.grown hk₆ _ (by walk_at "my mem"), N₄.grown hk₆⟩
      simp only [moveObj] at N₅
      clear F₄ N₄ hk₆
      have hS : (#[.ref (as 0), .ref (as 1), .ref (as 2)] : Array Value)[k]? = some (.ref (as k)) := three_at (f := fun j => .ref (as j)) hk3
      obtain ⟨d, its, n1, n2, hs, tq1, tq2, ha, hd, hts⟩ := hA k hk3
      k_steps
      unfold Hold
      (with_reducible rename News _ _ _ _ => N₁)
      (with_reducible rename Fr _ _ _ _ => F₁)
      refine acc_method (X'.keeps F₁.keep) (N₁.get (by walk_at "my mem")) (N₁.get (by walk_at "my mem")) (by k_is) (by k_is) rfl ?_
      k_steps
      unfold Hold
      (with_reducible rename News _ _ _ _ => N₁)
      (with_reducible rename Fr _ _ _ _ => F₁)
      refine acc_method (X'.keeps F₁.keep) (N₁.get (by walk_at "my mem")) (N₁.get (by walk_at "my mem")) (by k_is) (by k_is) rfl ?_
      k_steps
      unfold Hold
      have hga : g.get? (as k) = none := (N₁ (as k, accObj d its n1) (by walk_at "my mem")).2.2
      have hgd : g.get? d = none := (N₁ (d, accDict hs tq1 tq2 n2) (by walk_at "my mem")).2.2
      have hkL : @Ne Nat (as k) L := (N₁ (as k, accObj d its n1) (by walk_at "my mem")).2.1
      have hz : its.size ≤ 1000 := by rw [hts.1]; have := (hw k hk3).len; omega
      (with_reducible rename News _ _ _ _ => N₁)
      (with_reducible rename Fr _ _ _ _ => F₁)
      refine wpAny_with_toks (Nat.le_refl _) ?_
      refine part_count_c X' T' F₁.keep (by dsimp only; omega) (as k) d its n1 n2 hs tq1 tq2 (N₁.get (by walk_at "my mem")) (N₁.get (by walk_at "my mem")) hga hgd hz ?_
      intro tc h₇ tk₇ hk₇ ht₇
      dsimp only at ht₇
      have F₂ := F₁.keeps hk₇
      have N₂ := N₁.grown hk₇
      clear F₁ N₁ hk₇
      have e7 : ((its.size : Int) - (sizeOf' (ms k) mv k (ws k) : Nat)) = ((its.size - sizeOf' (ms k) mv k (ws k) : Nat) : Int) := by rw [hts.1]; omega
      k_steps
      unfold Hold
      (with_reducible rename News _ _ _ _ => N₂)
      (with_reducible rename Fr _ _ _ _ => F₂)
      rw [e7]
      refine wpAny_with_toks (Nat.le_refl _) ?_
      refine pop_from_c X' T' F₂.keep (by dsimp only; omega) (as k) d its n1 n2 hs tq1 tq2 (N₂.get (by walk_at "my mem")) (N₂.get (by walk_at "my mem")) hga hgd hz _ _ (Nat.sub_le _ _) ?_
      intro v n' h₈ tk₈ ha₈ hk₈ ht₈
      dsimp only at ht₈
      have F₃ := fr_but F₂ hk₈ hkL hga
      have N₃ := news_cut (pre := [(ls, refsO as ns), (L + 1 + 1, om), (lh, oh), (lm, marksO ms mt nm), (77, p77), (70, p70)]) (A := A) (tups := tups) (news_sub N₂ (by
          iterate 6 (refine List.forall_mem_cons.mpr ⟨by k_mem, ?_⟩)
          exact fun p hp => by walk_at "my mem")) ha (by
          refine List.forall_mem_cons.mpr ⟨fun e => (by simp [W.listOf, accObj] at e), List.forall_mem_cons.mpr ⟨fun e => (by have e : om = _ := e; rw [e] at dm; cases dm), List.forall_mem_cons.mpr ⟨hoha _ _ _, List.forall_mem_cons.mpr ⟨fun e => (by simp [W.listOf, accObj] at e), List.forall_mem_cons.mpr ⟨u77.ne_acc, List.forall_mem_cons.mpr ⟨u70.ne_acc, List.forall_mem_nil _⟩⟩⟩⟩⟩⟩) htup hk₈ ha₈
      have hst1 := stalks_cut (n' := n') (news_sub N₂ (fun p hp => by walk_at "my mem")) hinj hk3 hA ha hd hts (Nat.sub_le (ws k).length (sizeOf' (ms k) mv k (ws k)))
      rw [hts.1] at N₃
      clear F₂ N₂ hk₈
      have hs1 : 1 ≤ sizeOf' (ms k) mv k (ws k) := Nat.succ_le_succ (Nat.zero_le _)
      k_steps
      · (with_reducible rename News _ _ _ _ => N₄)
        (with_reducible rename Fr _ _ _ _ => F₄)
        have hm0 : mv = 0 := by clear hu1; omega
        subst hm0
        have e9 := hst.2.1
        rw [if_pos rfl, ← hdue] at e9
        refine hQ'.of _ _ ?_
        dsimp only [PlayPost]
        refine ⟨_, by rw [hkk]; exact cut_len (ws := ws) (m := 0) hk3 (n := (ws k).length - sizeOf' (ms k) 0 k (ws k)) (by omega), ?_⟩
        exact ⟨_, reA A (as k) _, cutAt ws k _, 1, _, _, _, p77, p70, F₄, N₄, u77, u70, hst1, solid_cut hAd, e1, rfl, rfl, .inr rfl, hst.1, e9.symm, G₂, fun j hj => Nat.lt_of_lt_of_le (hT₅ j hj) (by dsimp only; omega), rfl, rfl, by rw [← hwin, ← e9, hdue]; exact hst.2.2, rfl⟩
      · (with_reducible rename News _ _ _ _ => N₄)
        (with_reducible rename Fr _ _ _ _ => F₄)
        have hm0 : mv = 1 := by clear hu1; omega
        subst hm0
        have e9 := hst.2.1
        rw [if_neg (by decide), ← hdue] at e9
        refine hQ'.of _ _ ?_
        dsimp only [PlayPost]
        refine ⟨_, by rw [hkk]; exact cut_len (ws := ws) (m := 0) hk3 (n := (ws k).length - sizeOf' (ms k) 1 k (ws k)) (by omega), ?_⟩
        exact ⟨_, reA A (as k) _, cutAt ws k _, 0, _, _, _, p77, p70, F₄, N₄, u77, u70, hst1, solid_cut hAd, e1, rfl, rfl, .inl rfl, hst.1, e9.symm, G₂, fun j hj => Nat.lt_of_lt_of_le (hT₅ j hj) (by dsimp only; omega), rfl, rfl, by rw [← hwin, ← e9, hdue]; exact hst.2.2, rfl⟩
end Mine
end

end

section
open PySem PySem.W PyProof.Rows PySem.Calls
namespace Mine
local macro_rules | `(tactic| walk_at "getMethod ref") => `(tactic| ((with_reducible rename Fr _ _ _ _ => aF); (with_reducible rename News _ _ _ _ => aN); refine acc_method (Frag.In.keeps (by assumption) aF.keep) (aN.get (by k_mem)) (aN.get (by k_mem)) (by k_is) (by k_is) rfl ?_))
local macro_rules | `(tactic| walk_at "pyIter str") => `(tactic| refine hold ?_)
local macro_rules | `(tactic| walk_at "exec For Name Name cons nil") => `(tactic| with_unfolding_all (refine wpAny_For ?_))
local macro_rules | `(tactic| walk_at "eval ListComp") => `(tactic| refine hold ?_)
local macro_rules | `(tactic| walk_at "eval Name") => `(tactic| (k_inBlock; (with_reducible rename Fr _ _ _ _ => kF); refine' nameB_local kF ?k1 ?_ ?k2 ?k3 ?k4; (case k1 => exact if_pos rfl); (case k2 => rfl); (case k3 => rfl); (case k4 => decide)))
local macro_rules | `(tactic| walk_at "eval Name") => `(tactic| (k_inBlock; (with_reducible rename News _ _ _ _ => kN); refine' nameB_cell ?k1 ?k2 ?k3 ?_ ?k4 ?k5 ?k6; (case k1 => rfl); (case k2 => exact kN.get (by k_mem)); (case k3 => assumption); (case k4 => rfl); (case k5 => rfl); (case k6 => decide)))
local macro_rules | `(tactic| walk_at "subscriptTail Call UnaryOp") => `(tactic| (refine item_list_ints_negR (News.isList (by assumption) (by k_mem)) (by assumption) (by decide) (by omega) (by decide) ?_; intro _))
local macro_rules | `(tactic| walk_at "exec While") => `(tactic| ((refine wpAny_While ?_); refine hold ?_))
local macro_rules | `(tactic| walk_at "exec While Constant cons nil") => `(tactic| ((refine wpAny_While ?_); refine hold ?_))
local macro_rules | `(tactic| walk_at "execs cons") => `(tactic| ((with_reducible refine wpAny_execs_cons ?_); (try dsimp only); refine wpAny_with_toks (Nat.le_refl _) ?_))
/-- between the stalks -/
inductive StalksJ (gs₀ : Array GenState) (ls L lh lm : Addr) (om oh o77 o70 oH oM : Obj) (mv : Nat) (tv : Tok) (w0 w1 w2 : Str) (i : Nat) (m : Str → Option Value) (news : List (Addr × Obj)) (gs : Array GenState) : Prop
  | mk : gs = gs₀ → m (Str.ofString "stalks") = some (.ref ls) → m (Str.ofString "mover") = some (.int mv tv) → ∀ (as : List Addr) (ns : Nat) (A tups : List (Addr × Obj)),
    news = (ls, listOf (as.map Value.ref).toArray ns) :: (L + 1 + 1, om) :: (L + 1, oh) :: (lh, oH) :: (lm, oM) :: (A ++ tups) →
    as.length = i → ((A ++ tups).map (·.1)).Nodup → (∀ p ∈ A ++ tups, @Ne Nat p.1 ls) → (∀ (j : Nat) (a : Addr), as[j]? = some a → HasStalk A tups a ([w0, w1, w2].getD j w0).cps.toList) → as.Nodup → (∀ p ∈ A, Solid p.2) → ∀ tu, tups = tu ++ [(77, o77), (70, o70)] → (∀ p ∈ tu, TupO p.2) → StalksJ gs₀ ls L lh lm om oh o77 o70 oH oM mv tv w0 w1 w2 i m news gs
/-- between the edges of a stalk -/
inductive StalkJ (gs₀ : Array GenState) (ls a d I L lh lm : Addr) (oI om oh oH oM : Obj) (mv : Nat) (tv : Tok) (hs : Int) (t1 t2 : Tok) (n2 : Nat) (as : List Addr) (ns : Nat) (A tups : List (Addr × Obj)) (x : Str) (j : Nat) (m : Str → Option Value) (news : List (Addr × Obj)) (gs : Array GenState) : Prop
  | mk : gs = gs₀ → m (Str.ofString "stalks") = some (.ref ls) → m (Str.ofString "mover") = some (.int mv tv) → m (Str.ofString "stalk") = some (.ref a) → ∀ (its : Array Value) (n : Nat) (tp : List (Addr × Obj)),
    news = (a, accObj d its n) :: (d, accDict hs t1 t2 n2) :: (I, oI) :: (ls, listOf (as.map Value.ref).toArray ns) :: (L + 1 + 1, om) :: (L + 1, oh) :: (lh, oH) :: (lm, oM) :: (A ++ (tp ++ tups)) →
    TupsAre tp its (x.cps.toList.take j) → ((A ++ (tp ++ tups)).map (·.1)).Nodup → (∀ p ∈ A ++ (tp ++ tups), @Ne Nat p.1 ls ∧ @Ne Nat p.1 a ∧ @Ne Nat p.1 d ∧ @Ne Nat p.1 I) → (∀ p ∈ tp, TupO p.2) → StalkJ gs₀ ls a d I L lh lm oI om oh oH oM mv tv hs t1 t2 n2 as ns A tups x j m news gs
theorem play_c : ∀ {w : World} {dp u : Nat} {fr : Option (List Env)} {gd : Option (List Code)} {h₀ : Heap} {mg mb : Str → Option Value} {s : Shared} {p : Program} {loose : List Str} {mean : ExcName → Option Value}
    {Q E : Value → Shared → Prop} (X : (hd.heap_1 w.params).In h₀) (T : Top p loose mean mg mb h₀) (hk : ∀ b o, h₀.get? b = some o → s.heap.get? b = some o) (hroom : dp < 350) (hu : u < 2000)
    (lh lm : Addr) (w0 w1 w2 : Str) (m0 m1 m2 : Nat) (tw0 tw1 tw2 tm0 tm1 tm2 tv : Tok) (nh nm : Nat) (mv : Nat) (hh : s.heap.get? lh = some (strs3O w0 w1 w2 tw0 tw1 tw2 nh)) (hm : s.heap.get? lm = some (signs3O m0 m1 m2 tm0 tm1 tm2 nm))
    (hC : ∃ qs, IsCodeT s.heap 81 77 qs) (h77 : h₀.get? 77 = none) (hC' : ∃ qs, IsCodeT s.heap 74 70 qs) (h70 : h₀.get? 70 = none) (G : AllBare s.gens) (hnh : h₀.get? lh = none) (hnm : h₀.get? lm = none)
    (ws : Nat → List Nat) (ms : Nat → Nat) (mt : Nat → Tok) (hw0 : w0.cps.toList = ws 0) (hw1 : w1.cps.toList = ws 1) (hw2 : w2.cps.toList = ws 2) (hm0 : m0 = ms 0) (hm1 : m1 = ms 1) (hm2 : m2 = ms 2) (ht0 : tm0 = mt 0) (ht1 : tm1 = mt 1) (ht2 : tm2 = mt 2)
    (hmv : mv = 0 ∨ mv = 1) (hst : ∀ j, j < 3 → StalkW (ms j) (ws j)) (hmt0 : ∀ j, j < 3 → mt j ≠ 0) (hmt : ∀ j, j < 3 → @LT.lt Nat _ (mt j) s.toks)
    (h : ∀ t (s' : Shared), AllBare s'.gens → s'.os = s.os → s'.drawn = s.drawn → (∀ b o, b ≠ 77 → b ≠ 70 → s.heap.get? b = some o → s'.heap.get? b = some o) → (∃ qs, IsCodeT s'.heap 81 77 qs) → (∃ qs, IsCodeT s'.heap 74 70 qs) → Q (.int (WinOf mv (totV ms ws 3)) t) s'),
    wpAny (model PySem.Challenge.rw_re0035_01.row.prog w) ⟨none, dp, fr, gd, u⟩ (call (.ref 173) [.ref lh, .ref lm, .int mv tv]) Q E s := by
  k_fill
  intro w dp u fr gd h₀ mg mb s p loose mean Q E X T hk hroom hu lh lm w0 w1 w2 m0 m1 m2 tw0 tw1 tw2 tm0 tm1 tm2 tv nh nm mv hh hm hC h77 hC' h70 G hnh hnm ws ms mt hw0 hw1 hw2 hm0 hm1 hm2 ht0 ht1 ht2 hmv hst hmt0 hmt hQ
  have hx0 : w0.length ≤ 3 := by have := (hst 0 (by decide)).len; rw [← hw0] at this; exact this
  have hx1 : w1.length ≤ 3 := by have := (hst 1 (by decide)).len; rw [← hw1] at this; exact this
  have hx2 : w2.length ≤ 3 := by have := (hst 2 (by decide)).len; rw [← hw2] at this; exact this
  have ho := fn_at (K := hd.heap_1 w.params) (f := 173) (by k_is)
  obtain ⟨o77, q77, v77⟩ := tab_of_code hC
  obtain ⟨o70, q70, v70⟩ := tab_of_code hC'
  refine' enterCT (as := [lh, lm, 70, 77]) (binds := [(Str.ofString "heard", .ref lh), (Str.ofString "marks", .ref lm), (Str.ofString "mover", .int mv tv)]) X T hk ?n ?k6 ?k7 ?k8 ?k9 ?kB ?c1 ?c2 ?c3 ?c4 ?_
  case n =>
    intro b hb
    simp only [List.mem_cons, List.not_mem_nil, or_false] at hb
    rcases hb with rfl | rfl | rfl | rfl <;> assumption
  case k6 => k_is
  case k7 => k_is
  case k8 => simp only [recursionLimit]; omega
  case k9 => exact BindsTo.of_eq rfl
  case kB => rfl
  case c1 => decide
  case c2 => exact rfl
  case c3 => exact rfl
  case c4 => exact rfl
  intro g L h₁ tk₁ cells hg hL F' hk₁ NC hlt CA X' T' htk₁
  obtain ⟨om, oh, rfl, dm, dh⟩ := CellsAre.two CA
  replace dm : om.data = .cell (some (.ref lm)) := dm
  replace dh : oh.data = .cell (some (.ref lh)) := dh
  have N' : News g L h₁ [(L + 1 + 1, om), (L + 1, oh), (lh, strs3O w0 w1 w2 tw0 tw1 tw2 nh), (lm, signs3O m0 m1 m2 tm0 tm1 tm2 nm), (77, o77), (70, o70)] :=
    List.forall_mem_cons.mpr ⟨NC _ (.head _), List.forall_mem_cons.mpr ⟨NC _ (.tail _ (.head _)), List.forall_mem_cons.mpr ⟨⟨hk₁ _ _ hh, Nat.ne_of_lt (hL ▸ Heap.lt_size hh), hg ▸ hideAll_none _ (.head _)⟩, List.forall_mem_cons.mpr ⟨⟨hk₁ _ _ hm, Nat.ne_of_lt (hL ▸ Heap.lt_size hm), hg ▸ hideAll_none _ (.tail _ (.head _))⟩,
      List.forall_mem_cons.mpr ⟨⟨hk₁ _ _ q77, Nat.ne_of_lt (hL ▸ Heap.lt_size q77), hg ▸ hideAll_none _ (.tail _ (.tail _ (.tail _ (.head _))))⟩, List.forall_mem_cons.mpr ⟨⟨hk₁ _ _ q70, Nat.ne_of_lt (hL ▸ Heap.lt_size q70), hg ▸ hideAll_none _ (.tail _ (.tail _ (.head _)))⟩, List.forall_mem_nil _⟩⟩⟩⟩⟩⟩
  have hL77 : @LT.lt Nat _ 77 L := hL ▸ Heap.lt_size q77
  have hL70 : @LT.lt Nat _ 70 L := hL ▸ Heap.lt_size q70
  have hlhL : @LT.lt Nat _ lh L := hL ▸ Heap.lt_size hh
  have hlmL : @LT.lt Nat _ lm L := hL ▸ Heap.lt_size hm
  clear X T CA NC
  k_steps
  unfold Hold
  (with_reducible rename News _ _ _ _ => N₂)
  (with_reducible rename Fr _ _ _ _ => F₂)
  rename _ ∧ _ => l1
  rename_i ls hA hB
  refine for_list (J := StalksJ s.gens ls L lh lm om oh o77 o70 (strs3O w0 w1 w2 tw0 tw1 tw2 nh) (signs3O m0 m1 m2 tm0 tm1 tm2 nm) mv tv w0 w1 w2) rfl rfl rfl F₂ N₂ ⟨_, N₂.get (.tail _ (.tail _ (.tail _ (.head _)))), rfl, _, rfl⟩ (Nat.ne_of_lt hlhL) ?_ ?_ ?_
  · refine ⟨rfl, rfl, rfl, [], 0, [], [(77, o77), (70, o70)], rfl, rfl, (by show ([77, 70] : List Nat).Nodup; decide), ?_, fun j a e => (by simp at e), List.nodup_nil, fun p hp => (nomatch hp), [], rfl, fun p hp => (nomatch hp)⟩
    refine List.forall_mem_cons.mpr ⟨Nat.ne_of_lt l1.2.2.2.2.1, List.forall_mem_cons.mpr ⟨Nat.ne_of_lt l1.2.2.2.2.2, List.forall_mem_nil _⟩⟩
  · intro i v I oI m₁ news₁ gs h tk hi HJ hI hI' hl F₃ N₃
    refine hideQ fun Q1 hQ1 => ?_
    clear F₂ N₂
    obtain ⟨rfl, e1, e2, as, ns, A, tups, rfl, e3, e4, e5, e6, e7, e8, tu, e9, e10⟩ := HJ
    have hw : ∃ x tx, v = .str x tx ∧ [w0, w1, w2].getD i w0 = x := by
      have h3 : i < 3 := (Array.getElem?_eq_some_iff.mp hi).1
      rcases lt3 h3 with rfl | rfl | rfl
      all_goals simp at hi; exact ⟨_, _, hi.symm, rfl⟩
    obtain ⟨x, tx, rfl, hx⟩ := hw
    k_steps
    unfold Hold
    refine acc_c X' T' F₃.keep (by dsimp only; omega) ?_
    intro a d hs t1 t2 n2 h₄ tk₄ ha0 hd0 ha hd' hk₄
    have F₄ := F₃.keeps hk₄
    have hda : @Ne Nat d a := by intro e; have e : d = a := e; rw [e, ha] at hd'; simp [accObj, accDict] at hd'
    have na := new_ne N₃ ha0
    have nd := new_ne N₃ hd0
    have N₄ := news_add F₃ ha0 ha (news_add F₃ hd0 hd' (N₃.grown hk₄))
    have hlh := N₃.get (a := lh) (o := strs3O w0 w1 w2 tw0 tw1 tw2 nh) (by k_mem)
    clear F₃ N₃
    k_steps
    unfold Hold
    (with_reducible rename News _ _ _ _ => N₅)
    (with_reducible rename Fr _ _ _ _ => F₅)
    have hx3 : x.length ≤ 3 := by
      have h3 : i < 3 := (Array.getElem?_eq_some_iff.mp hi).1
      rcases lt3 h3 with rfl | rfl | rfl
      · exact hx ▸ hx0
      · exact hx ▸ hx1
      · exact hx ▸ hx2
    refine for_str (J := StalkJ s.gens ls a d I L lh lm oI om oh (strs3O w0 w1 w2 tw0 tw1 tw2 nh) (signs3O m0 m1 m2 tm0 tm1 tm2 nm) mv tv hs t1 t2 n2 as ns A tups x) rfl rfl rfl F₅ N₅ ?_ ?_ ?_
    · refine ⟨rfl, e1, e2, rfl, #[], 0, [], rfl, ⟨by simp, fun j c e => by simp at e⟩, e4, fun p hp => ⟨e5 p hp, na p ?_, nd p ?_, hI' p ?_⟩, fun p hp => nomatch hp⟩
      all_goals simp only [List.nil_append] at hp
      · exact .tail _ (.tail _ (.tail _ (.tail _ (.tail _ (.tail _ hp)))))
      · exact .tail _ (.tail _ (.tail _ (.tail _ (.tail _ (.tail _ hp)))))
      · exact .tail _ (.tail _ (.tail _ (.tail _ (.tail _ hp))))
    · intro j c t I₂ oI₂ m₂ news₂ gs₂ h₆ tk₆ hc HJ hI2 hI2' F₆ N₆
      refine hideQ fun Q2 hQ2 => ?_
      clear F₄ N₄ F₅ N₅
      obtain ⟨rfl, f1, f2, f3, its, n, tp, rfl, f4, f5, f6, f7⟩ := HJ
      have hz : its.size ≤ 1000 := by
        have := f4.1
        rw [List.length_take] at this
        have h2 : x.cps.toList.length ≤ 3 := hx3
        omega
      have haL : @Ne Nat a L := (N₆ _ (.tail _ (.head _))).2.1
      have hga : g.get? a = none := (N₆ _ (.tail _ (.head _))).2.2
      have hI2a : @Ne Nat I₂ a := fun e => hI2' _ (.head _) e.symm
      have hrest : ∀ p ∈ ((d, accDict hs t1 t2 n2) :: (I, oI) :: (ls, listOf (as.map Value.ref).toArray ns) :: (L + 1 + 1, om) :: (L + 1, oh) :: (lh, strs3O w0 w1 w2 tw0 tw1 tw2 nh) :: (lm, signs3O m0 m1 m2 tm0 tm1 tm2 nm) :: (A ++ (tp ++ tups)) : List (Addr × Obj)), @Ne Nat p.1 a :=
        List.forall_mem_cons.mpr ⟨hda, List.forall_mem_cons.mpr ⟨na _ (.head _), List.forall_mem_cons.mpr ⟨na (ls, listOf (as.map Value.ref).toArray ns) (.tail _ (.head _)), List.forall_mem_cons.mpr ⟨na _ (.tail _ (.tail _ (.head _))), List.forall_mem_cons.mpr ⟨na _ (.tail _ (.tail _ (.tail _ (.head _)))), List.forall_mem_cons.mpr ⟨na (lh, _) (.tail _ (.tail _ (.tail _ (.tail _ (.head _))))), List.forall_mem_cons.mpr ⟨na (lm, _) (.tail _ (.tail _ (.tail _ (.tail _ (.tail _ (.head _)))))), fun p hp => (f6 p hp).2.1⟩⟩⟩⟩⟩⟩⟩
      k_steps
      · unfold Hold
        rename _ = true => hb
        (with_reducible rename News _ _ _ _ => N₆)
        (with_reducible rename Fr _ _ _ _ => F₆)
        have hc32 := is_blank hb
        refine push_c X' T' F₆.keep (by dsimp only; omega) a d its n n2 hs t1 t2 _ _ _ _ (N₆.get (.tail _ (.head _))) (N₆.get (.tail _ (.tail _ (.head _)))) hga hz ?_
        intro T h₇ tk₇ hT0 hT ha₇ hk₇
        obtain ⟨oT, hT, hoT⟩ := tup_intro hT
        have N₇ := news_add F₆ hT0 hT (news_set2 N₆ hk₇ hI2a hrest ha₇)
        have F₇ := fr_but F₆ hk₇ haL hga
        have nT := new_ne N₆ hT0
        clear F₆ N₆
        k_steps
        (with_reducible rename News _ _ _ _ => N₈)
        (with_reducible rename Fr _ _ _ _ => F₈)
        refine hQ2.of _ _ ?_
        refine turn_end (news' := (a, accObj d (its.push (.ref T)) (n + 1)) :: (d, accDict hs t1 t2 n2) :: (I, oI) :: (ls, listOf (as.map Value.ref).toArray ns) :: (L + 1 + 1, om) :: (L + 1, oh) :: (lh, strs3O w0 w1 w2 tw0 tw1 tw2 nh) :: (lm, signs3O m0 m1 m2 tm0 tm1 tm2 nm) :: (A ++ (((T, oT) :: tp) ++ tups))) F₈ N₈ ?_ ?_ (fun _ hb => nomatch hb) ⟨rfl, f1, f2, f3, its.push (.ref T), n + 1, (T, oT) :: tp, rfl, tups_push' f4 hc hoT (by simp [pairOf, hc32]), ?_, ?_, List.forall_mem_cons.mpr ⟨by rw [hoT]; exact ⟨rfl, fun q e => (by cases e)⟩, f7⟩⟩
        · walk_at "my sub"
        · intro p hp
          rcases List.mem_cons.mp hp with rfl | hp
          · exact hI2' (a, accObj d its n) (.head _)
          iterate 7 (rcases List.mem_cons.mp hp with rfl | hp; (· exact hI2' _ (.tail _ (by k_mem))))
          rcases mid_mem hp with rfl | hp
          · exact fun e => nT (I₂, oI₂) (.head _) e.symm
          · exact hI2' p (by repeat (refine .tail _ ?_)
                             exact hp)
        · refine mid_nodup f5 fun p hp => nT p ?_
          repeat (refine .tail _ ?_)
          exact hp
        · intro p hp
          rcases mid_mem hp with rfl | hp
          · exact ⟨fun e => nT (ls, listOf (as.map Value.ref).toArray ns) (by k_mem) e.symm, fun e => nT (a, accObj d its n) (by k_mem) e.symm, fun e => nT (d, accDict hs t1 t2 n2) (by k_mem) e.symm, fun e => nT (I, oI) (by k_mem) e.symm⟩
          · exact f6 p hp
      · unfold Hold
        rename _ = false => hb
        (with_reducible rename News _ _ _ _ => N₆)
        (with_reducible rename Fr _ _ _ _ => F₆)
        have hc32 := no_blank hb
        refine push_c X' T' F₆.keep (by dsimp only; omega) a d its n n2 hs t1 t2 _ _ _ _ (N₆.get (.tail _ (.head _))) (N₆.get (.tail _ (.tail _ (.head _)))) hga hz ?_
        intro T h₇ tk₇ hT0 hT ha₇ hk₇
        obtain ⟨oT, hT, hoT⟩ := tup_intro hT
        have N₇ := news_add F₆ hT0 hT (news_set2 N₆ hk₇ hI2a hrest ha₇)
        have F₇ := fr_but F₆ hk₇ haL hga
        have nT := new_ne N₆ hT0
        clear F₆ N₆
        k_steps
        (with_reducible rename News _ _ _ _ => N₈)
        (with_reducible rename Fr _ _ _ _ => F₈)
        refine hQ2.of _ _ ?_
        refine turn_end (news' := (a, accObj d (its.push (.ref T)) (n + 1)) :: (d, accDict hs t1 t2 n2) :: (I, oI) :: (ls, listOf (as.map Value.ref).toArray ns) :: (L + 1 + 1, om) :: (L + 1, oh) :: (lh, strs3O w0 w1 w2 tw0 tw1 tw2 nh) :: (lm, signs3O m0 m1 m2 tm0 tm1 tm2 nm) :: (A ++ (((T, oT) :: tp) ++ tups))) F₈ N₈ ?_ ?_ (fun _ hb => nomatch hb) ⟨rfl, f1, f2, f3, its.push (.ref T), n + 1, (T, oT) :: tp, rfl, tups_push' f4 hc hoT (by simp [pairOf, hc32]), ?_, ?_, List.forall_mem_cons.mpr ⟨by rw [hoT]; exact ⟨rfl, fun q e => (by cases e)⟩, f7⟩⟩
        · walk_at "my sub"
        · intro p hp
          rcases List.mem_cons.mp hp with rfl | hp
          · exact hI2' (a, accObj d its n) (.head _)
          iterate 7 (rcases List.mem_cons.mp hp with rfl | hp; (· exact hI2' _ (.tail _ (by k_mem))))
          rcases mid_mem hp with rfl | hp
          · exact fun e => nT (I₂, oI₂) (.head _) e.symm
          · exact hI2' p (by repeat (refine .tail _ ?_)
                             exact hp)
        · refine mid_nodup f5 fun p hp => nT p ?_
          repeat (refine .tail _ ?_)
          exact hp
        · intro p hp
          rcases mid_mem hp with rfl | hp
          · exact ⟨fun e => nT (ls, listOf (as.map Value.ref).toArray ns) (by k_mem) e.symm, fun e => nT (a, accObj d its n) (by k_mem) e.symm, fun e => nT (d, accDict hs t1 t2 n2) (by k_mem) e.symm, fun e => nT (I, oI) (by k_mem) e.symm⟩
          · exact f6 p hp
    · rintro m₂ news₂ gs₂ h₆ tk₆ ⟨rfl, f1, f2, f3, its, n, tp, rfl, f4, f5, f6, f7⟩ F₆ N₆
      clear F₄ N₄ F₅ N₅
      k_steps
      unfold Hold
      (with_reducible rename News _ _ _ _ => N₇)
      (with_reducible rename Fr _ _ _ _ => F₇)
      have hi3 : i < 3 := by have := (Array.getElem?_eq_some_iff.mp hi).1; simpa using this
      have hIls : @Ne Nat I ls := fun e => hI' (ls, listOf (as.map Value.ref).toArray ns) (.head _) e.symm
      have hals : @Ne Nat a ls := fun e => na (ls, listOf (as.map Value.ref).toArray ns) (.tail _ (.head _)) e.symm
      have hdls : @Ne Nat d ls := fun e => nd (ls, listOf (as.map Value.ref).toArray ns) (.tail _ (.head _)) e.symm
      have hr2 : ∀ p ∈ ((L + 1 + 1, om) :: (L + 1, oh) :: (lh, strs3O w0 w1 w2 tw0 tw1 tw2 nh) :: (lm, signs3O m0 m1 m2 tm0 tm1 tm2 nm) :: (A ++ (tp ++ tups)) : List (Addr × Obj)), p.1 ≠ ls :=
        List.forall_mem_cons.mpr ⟨Nat.ne_of_lt l1.1, List.forall_mem_cons.mpr ⟨Nat.ne_of_lt l1.2.1, List.forall_mem_cons.mpr ⟨Nat.ne_of_lt l1.2.2.1, List.forall_mem_cons.mpr ⟨Nat.ne_of_lt l1.2.2.2.1, fun p hp => (f6 p hp).1⟩⟩⟩⟩
      refine append_K F₇ N₇ (Upd.tail hals (Upd.tail hdls (Upd.tail hIls (Upd.head hr2)))) ?_ (by rw [sizeLine_eq]; simp; omega)
      intro h₈ F₈ N₈
      clear F₇ N₇
      k_steps
      (with_reducible rename News _ _ _ _ => N₉)
      (with_reducible rename Fr _ _ _ _ => F₉)
      refine hQ1.of _ _ ?_
      refine turn_end (news' := (ls, listOf ((as.map Value.ref).toArray.push (.ref a)) (ns + 1)) :: (L + 1 + 1, om) :: (L + 1, oh) :: (lh, strs3O w0 w1 w2 tw0 tw1 tw2 nh) :: (lm, signs3O m0 m1 m2 tm0 tm1 tm2 nm) :: (((a, accObj d its n) :: (d, accDict hs t1 t2 n2) :: A) ++ (tp ++ tups))) F₉ N₉ ?_ ?_ ?_ ⟨rfl, f1, f2, as ++ [a], ns + 1, (a, accObj d its n) :: (d, accDict hs t1 t2 n2) :: A, tp ++ tups, by simp, by simp [e3], ?_, ?_, ?_, ?_, ?_, tp ++ tu, by rw [e9, List.append_assoc], fun p hp => (List.mem_append.mp hp).elim (f7 p) (e10 p)⟩
      · walk_at "my sub"
      · intro p hp
        rcases List.mem_cons.mp hp with rfl | hp
        · exact fun e => hIls e.symm
        iterate 4 (rcases List.mem_cons.mp hp with rfl | hp; (· exact hI' _ (.tail _ (by k_mem))))
        rw [List.cons_append, List.cons_append] at hp
        rcases List.mem_cons.mp hp with rfl | hp
        · exact fun e => na (I, oI) (.head _) e.symm
        rcases List.mem_cons.mp hp with rfl | hp
        · exact fun e => nd (I, oI) (.head _) e.symm
        exact (f6 p hp).2.2.2
      · intro b hb o e
        rw [List.mem_singleton.mp hb] at e ⊢
        rw [hlh] at e
        rw [← Option.some.inj e]
        exact N₉.get (by k_mem)
      · rw [List.cons_append, List.cons_append]
        exact two_nodup f5 hda (fun p hp => (f6 p hp).2.1) fun p hp => (f6 p hp).2.2.1
      · intro p hp
        rw [List.cons_append, List.cons_append] at hp
        rcases List.mem_cons.mp hp with rfl | hp
        · exact hals
        rcases List.mem_cons.mp hp with rfl | hp
        · exact hdls
        exact (f6 p hp).1
      · intro j a' e
        by_cases hj : j < as.length
        · rw [List.getElem?_append_left hj] at e
          exact (e6 j a' e).mono (fun p hp => .tail _ (.tail _ hp)) fun p hp => List.mem_append_right _ hp
        · have hj2 : j = as.length := by
            have := (List.getElem?_eq_some_iff.mp e).1
            simp at this; omega
          subst hj2
          simp at e
          subst e
          refine ⟨d, its, n, n2, hs, t1, t2, .head _, .tail _ (.head _), ?_⟩
          rw [e3, hx]
          have f4' := f4
          rw [show x.cps.size = x.cps.toList.length from rfl, List.take_length] at f4'
          exact f4'.mono fun p hp => List.mem_append_left _ hp
      · refine List.nodup_append.mpr ⟨e7, by simp, fun b hb c hc => ?_⟩
        obtain ⟨j, hj, rfl⟩ := List.getElem_of_mem hb
        obtain ⟨d', its', m1', m2', hs', u1', u2', x1', x2', x3'⟩ := e6 j as[j] (by simp)
        have hc : c = a := by simpa using hc
        rw [hc]
        exact na (as[j], accObj d' its' m1') (by
          iterate 6 (refine .tail _ ?_)
          exact List.mem_append_left _ x1')
      · refine List.forall_mem_cons.mpr ⟨⟨fun q e => (by cases e), fun e => (by cases e)⟩, List.forall_mem_cons.mpr ⟨⟨fun q e => (by cases e), fun e => (by simp [accDict] at e)⟩, e8⟩⟩
  · rintro m₁ news₁ gs h tk ⟨rfl, e1, e2, as, ns, A, tups, rfl, e3, e4, e5, e6, e7, e8, tu, e9, e10⟩ F₃ N₃
    clear F₂ N₂
    obtain ⟨a0, a1, a2, rfl⟩ := list3 (show as.length = 3 from e3)
    obtain ⟨d0, its0, n0, q0, hs0, r0, v0, x0, y0, z0⟩ := e6 0 a0 rfl
    obtain ⟨d1, its1, n1, q1, hs1, r1, v1, x1, y1, z1⟩ := e6 1 a1 rfl
    obtain ⟨d2, its2, n2, q2, hs2, r2, v2, x2, y2, z2⟩ := e6 2 a2 rfl
    clear e6
    k_steps
    unfold Hold
    (with_reducible rename News _ _ _ _ => N₄)
    (with_reducible rename Fr _ _ _ _ => F₄)
    refine listComp_step rfl rfl (by decide) ?_
    k_steps
    unfold Hold
    (with_reducible rename IsRange _ _ _ _ _ _ _ _ => hR)
    (with_reducible rename News _ _ _ _ => N₅)
    (with_reducible rename Fr _ _ _ _ => F₅)
    have NA : News g L _ ([(L + 1 + 1, om), (L + 1, oh), (lh, strs3O w0 w1 w2 tw0 tw1 tw2 nh), (lm, signs3O m0 m1 m2 tm0 tm1 tm2 nm)] : List (Addr × Obj)) := news_sub N₅ (by walk_at "my sub")
    have CF := comp_facts NA
    have hgas : ∀ b ∈ [L + 1 + 1, L + 1, lh, lm], g.get? b = none := CF.new
    have hLas : L ∉ [L + 1 + 1, L + 1, lh, lm] := CF.loc
    refine comp_range (as := [L + 1 + 1, L + 1, lh, lm]) (news₀ := [(L + 1 + 1, om), (L + 1, oh), (lh, strs3O w0 w1 w2 tw0 tw1 tw2 nh), (lm, signs3O m0 m1 m2 tm0 tm1 tm2 nm)])
      (fun i ys news gs => gs = s.gens ∧ news = [(L + 1 + 1, om), (L + 1, oh), (lh, strs3O w0 w1 w2 tw0 tw1 tw2 nh), (lm, signs3O m0 m1 m2 tm0 tm1 tm2 nm)] ∧ IntsAre ys ([valueOf m0 w0.cps.toList, valueOf m1 w1.cps.toList, valueOf m2 w2.cps.toList].take i)) rfl hR (by decide) ?_ ?_ ⟨rfl, rfl, .nil⟩ (by decide) rfl rfl ?_ ?_
    · exact CF.has
    · exact CF.old
    · rintro i t ys D C I oI m₄ news₄ gs h₄ tk₄ nn g₂ hi ⟨rfl, rfl, hz⟩ B hD hCn hne hl F₆ N₆
      have up := B.from F₅ hgas
      have X2 := X'.keeps up
      have T2 := T'.keeps up
      clear X' T'
      clear F₅ N₅
      have hi' : @LT.lt Nat _ i 3 := hi
      rcases lt3 (i := i) (by omega) with rfl | rfl | rfl
      all_goals k_steps
      all_goals (try k_data)
      all_goals unfold Hold
      all_goals (with_reducible rename Fr _ _ _ _ => F₇)
      all_goals (with_reducible rename News _ _ _ _ => N₇)
      all_goals refine counts_c X2 T2 F₇.keep (by dsimp only; omega) _ _ _ _ (by assumption) ?_
      all_goals intro q vs n h₅ tk₅ hq0 hq hqi hk₅
      all_goals have F₈ := F₇.keeps hk₅
      all_goals have N₈ := news_add F₇ hq0 hq (N₇.grown hk₅)
      all_goals have nq := new_ne N₇ hq0
      all_goals have hlen := counts_len _ _ _ hqi
      all_goals clear F₇ N₇
      all_goals k_steps
      all_goals rw [getD_last] 
      all_goals refine ⟨_, [(L + 1 + 1, om), (L + 1, oh), (lh, strs3O w0 w1 w2 tw0 tw1 tw2 nh), (lm, signs3O m0 m1 m2 tm0 tm1 tm2 nm)], _, _, _, rfl, by assumption, news_sub (by assumption) (fun p hp => .tail _ hp), hne, rfl, rfl, hz.append (.cons _ _ .nil)⟩
    · intro D C ys m₄ news₄ gs h₄ tk₄ nn g₂ ⟨g8, g9, hz⟩ hl B hD hCn hDC hne F₆ N₆
      subst g9
      have g8 : gs = s.gens := g8
      subst g8
      refine ⟨_, F₆.ns, fun h₅ hs₅ => ?_⟩
      obtain ⟨k₅, N₇⟩ := comp_same F₅ B hCn hgas hLas F₆ N₆ hs₅ (fun b hb => by obtain ⟨o, e, m⟩ := CF.obj b hb; exact ⟨o, e, .tail _ m⟩)
      have F₈ := F₅.keeps k₅
      have N₈ : News g L h₅ ((D, listOf ys.toArray nn) :: _) := fun p hp => by
        rcases List.mem_cons.mp hp with rfl | hp
        · exact N₇ _ (.head _)
        · exact N₅.grown k₅ p hp
      clear F₅ N₅ F₆ N₆ N₇
      k_steps
      unfold Hold
      (with_reducible rename News _ _ _ _ => N₉)
      (with_reducible rename Fr _ _ _ _ => F₉)
      rename tk ≤ _ => ht9
      rename Shared.toks _ ≤ Shared.toks _ => ht8
      subst hm0 hm1 hm2 ht0 ht1 ht2 e9
      have hdue : (List.take 3 [valueOf (ms 0) w0.cps.toList, valueOf (ms 1) w1.cps.toList, valueOf (ms 2) w2.cps.toList]).sum = totV ms ws 3 := by rw [totV3, hw0, hw1, hw2]; simp; omega
      rw [hdue] at F₉
      have hT2 : ∀ p ∈ [((77 : Addr), o77), (70, o70)], TabIs p.2 := List.forall_mem_cons.mpr ⟨v77, List.forall_mem_cons.mpr ⟨v70, List.forall_mem_nil _⟩⟩
      refine codeAny_whileLoop (fun n s' => PlayInv g L ls lm lh om (strs3O w0 w1 w2 tw0 tw1 tw2 nh) ns nm (fun j => if j = 0 then a0 else if j = 1 then a1 else a2) ms mt tu (WinOf mv (totV ms ws 3)) s.drawn s.os n s') ?_ ((ws 0).length + (ws 1).length + (ws 2).length) ?_
      rotate_left
      · refine ⟨_, A, ws, mv, totV ms ws 3, _, _, o77, o70, F₉, news_sub N₉ ?_, v77, v70, ?_, ?_, e1, e2, rfl, hmv, hst, rfl, G, fun j hj => Nat.lt_of_lt_of_le (hmt j hj) (by dsimp only at ht8 ht9 ⊢; omega), rfl, rfl, rfl, rfl⟩
        · refine List.forall_mem_cons.mpr ⟨.tail _ (.head _), ?_⟩
          iterate 3 (refine List.forall_mem_cons.mpr ⟨by k_mem, ?_⟩)
          refine List.forall_mem_cons.mpr ⟨?_, List.forall_mem_cons.mpr ⟨?_, fun p hp => ?_⟩⟩
          · iterate 6 (refine .tail _ ?_)
            exact List.mem_append_right _ (List.mem_append_right _ (.head _))
          · iterate 6 (refine .tail _ ?_)
            exact List.mem_append_right _ (List.mem_append_right _ (.tail _ (.head _)))
          · iterate 6 (refine .tail _ ?_)
            rcases List.mem_append.mp hp with hp | hp
            · exact List.mem_append_left _ hp
            · exact List.mem_append_right _ (List.mem_append_left _ hp)
        · intro j hj
          rcases lt3 (i := j) (by omega) with rfl | rfl | rfl
          · exact ⟨d0, its0, n0, q0, hs0, r0, v0, x0, y0, hw0 ▸ z0.less hT2⟩
          · exact ⟨d1, its1, n1, q1, hs1, r1, v1, x1, y1, hw1 ▸ z1.less hT2⟩
          · exact ⟨d2, its2, n2, q2, hs2, r2, v2, x2, y2, hw2 ▸ z2.less hT2⟩
        · intro p hp
          rcases List.mem_append.mp hp with hp | hp
          · exact e8 p hp
          · have q := e10 p hp
            exact ⟨q.2, fun ez => (by rw [q.1] at ez; injection ez with ez; exact absurd ez (by decide))⟩
      have g77 : CodeKnown g 81 77 := by
        obtain ⟨qs, hC⟩ := hC
        exact codeKnown_of hC fun o e => hg ▸ get_hide e (by
          simp only [List.mem_cons, List.not_mem_nil, or_false, not_or]
          exact ⟨code_ne hC hh (fun q e => (by cases e)), code_ne hC hm (fun q e => (by cases e)), by decide, by decide⟩)
      have g70 : CodeKnown g 74 70 := by
        obtain ⟨qs, hC⟩ := hC'
        exact codeKnown_of hC fun o e => hg ▸ get_hide e (by
          simp only [List.mem_cons, List.not_mem_nil, or_false, not_or]
          exact ⟨code_ne hC hh (fun q e => (by cases e)), code_ne hC hm (fun q e => (by cases e)), by decide, by decide⟩)
      intro n s' hI'
      walk1
      walk1
      walk1
      rw [if_pos rfl]
      have hds : s'.drawn = s.drawn ∧ s'.os = s.os := by
        obtain ⟨_, _, _, _, _, _, _, _, _, _, _, _, _, _, _, _, _, _, _, _, _, _, _, a, b, _⟩ := hI'
        exact ⟨a, b⟩
      refine wpAny_mono (play_turn (m₀ := fun _ => none) X' T' (by omega) (by omega) ho (fun j => if j = 0 then a0 else if j = 1 then a1 else a2) ms ls lm lh om (strs3O w0 w1 w2 tw0 tw1 tw2 nh) ns nm mt hmt0 tu (WinOf mv (totV ms ws 3)) n hL77 g77 g70 (fun q e => by cases e) (fun d its n e => by simp [W.listOf, accObj] at e) (fun p hp => (e10 p hp).1) dm (as_inj e7) (by rw [hds.1, hds.2]; exact hI')) ?_ (fun _ _ y => y.elim)
      · intro f s₃ hp
        rw [hds.1, hds.2] at hp
        cases f with
        | next => exact hp
        | cont => exact hp
        | brk => exact hp.elim
        | ret v =>
          intro _
          obtain ⟨m', tr, r77, r70, rfl, F, N, t77, t70, G', hd3, ho3⟩ := hp
          refine hQ tr s₃ G' ho3 hd3 ?_ (g77.here F N (by k_mem) t77) (g70.here F N (by k_mem) t70)
          intro b o n1 n2 e
          by_cases h1 : b = lh
          · subst h1
            rw [hh] at e
            rw [← Option.some.inj e]
            exact N.get (by k_mem)
          by_cases h2 : b = lm
          · subst h2
            rw [hm] at e
            rw [← Option.some.inj e]
            exact N.get (by k_mem)
          exact F.keep b o (by rw [hg]; exact get_hide e (by simp [h1, h2, n1, n2]))
end Mine
end

end

section
open PySem PySem.W PyProof.Rows PySem.Calls
namespace Mine
theorem fdiv2 (c : Nat) : (c : Int).fdiv 2 = ((c / 2 : Nat) : Int) := by rw [Int.fdiv_eq_ediv_of_nonneg _ (by decide)]; omega
inductive WordSt (g : Heap) (L : Addr) (ws : List (Addr × Obj)) (gs : Array GenState) (dr : Drawn) (os : OsState) (mk : Nat) (m₀ : Str → Option Value) (tk₀ : Nat) (code : Nat) (wd : List Nat) (s : Shared) : Prop
  | mk : ∀ m h tk tc tw, (s = ⟨h, gs, dr, tk, os⟩) → (tk₀ ≤ tk) → (Fr g L h m) → (News g L h ws) → (m (Str.ofString "code") = some (.int code tc)) → (m (Str.ofString "word") = some (.str ⟨wd.toArray⟩ tw)) → ((∀ y, y ≠ Str.ofString "code" → y ≠ Str.ofString "word" → m y = m₀ y)) → WordSt g L ws gs dr os mk m₀ tk₀ code wd s
theorem code_turn : ∀ {w : World} {dp u : Nat} {fr : Option (List Env)} {gd : Option (List Code)} {g : Heap} {mg mb : Str → Option Value} {p : Program} {loose : List Str} {mean : ExcName → Option Value} {L : Addr}
    {name qual : Str} {params : Arguments} {body : List Stmt} {scope : Scope} {dV kV doc pm cdv ct oc : Value} {an od : Option Addr} {osl : Array (Option Value)}
    (X' : (hd.heap_1 w.params).In g) (T' : Top p loose mean mg mb g) (hroom : dp < 400) (hu : u < 4000)
    (ho : (hd.heap_1 w.params).lookup 178 = some ⟨oc, od, .func (fnOf name qual params body scope dV kV doc pm an cdv ct), osl⟩)
    (nw : List (Addr × Obj)) (gs : Array GenState) (dr : Drawn) (os : OsState) (mk : Nat) (tm : Tok) (m₀ : Str → Option Value) (tk₀ code : Nat) (wd : List Nat) (hcode : 1 < code ∧ code ≤ 15) (hwd : wd.length ≤ 10) (hm : m₀ (Str.ofString "mark") = some (.str ⟨#[mk]⟩ tm)) (s : Shared) (S : WordSt g L nw gs dr os mk m₀ tk₀ code wd s),
    wpAny (model PySem.Challenge.rw_re0035_01.row.prog w) (Around.deeper ⟨none, dp, fr, gd, u⟩ (envOfC qual scope L 178 cdv)) (execs (whileBody (forBody body)) (envOfC qual scope L 178 cdv))
      (fun f s' => f = .next ∧ WordSt g L nw gs dr os mk m₀ tk₀ (code / 2) (wd ++ [if code % 2 = 1 then mk else 32]) s') (fun _ _ => False) s := by
  k_fill
  intro w dp u fr gd g mg mb p loose mean L name qual params body scope dV kV doc pm cdv ct oc an od osl X' T' hroom hu ho nw gs dr os mk tm m₀ tk₀ code wd hcode hwd hm s S
  obtain ⟨m, h, tk, tc, tw, rfl, ht, F, N, m1, m2, m3⟩ := S
  have m4 : m (Str.ofString "mark") = some (.str ⟨#[mk]⟩ tm) := (m3 _ (by decide) (by decide)).trans hm
  obtain ⟨q1, q2, q3, q4⟩ := fn_inj ho (by k_is)
  subst q1 q2 q3 q4
  conv in (execs _ _) => arg 1; whnf
  have hlen : (⟨wd.toArray⟩ : Str).length ≤ 10 := by show (List.toArray _).size ≤ _; simpa using hwd
  have hlen1 : (⟨#[mk]⟩ : Str).length = 1 := rfl
  clear hm ho
  refine wpAny_with_toks (n := tk) (Nat.le_refl _) ?_
  k_steps
  · (with_reducible rename News _ _ _ _ => N₁)
    (with_reducible rename Fr _ _ _ _ => F₁)
    rename_i hle
    rename (code : Int).fmod 2 = 1 => hf
    have hc : code % 2 = 1 := by rw [Int.fmod_eq_emod_of_nonneg _ (by decide)] at hf; omega
    rw [if_pos hc]
    rw [push_sign, fdiv2] at F₁
    exact ⟨_, _, _, _, _, rfl, Nat.le_trans ht hle, F₁, N₁, rfl, rfl, fun y n1 n2 => by dsimp only; rw [if_neg n1, if_neg n2]; exact m3 y n1 n2⟩
  · (with_reducible rename News _ _ _ _ => N₁)
    (with_reducible rename Fr _ _ _ _ => F₁)
    rename_i hle
    have hc : ¬ code % 2 = 1 := by
      intro hc
      have hf : (code : Int).fmod 2 = 1 := by rw [Int.fmod_eq_emod_of_nonneg _ (by decide)]; omega
      contradiction
    rw [if_neg hc]
    rw [show Str.ofString " " = ⟨#[32]⟩ from rfl, push_sign, fdiv2] at F₁
    exact ⟨_, _, _, _, _, rfl, Nat.le_trans ht hle, F₁, N₁, rfl, rfl, fun y n1 n2 => by dsimp only; rw [if_neg n1, if_neg n2]; exact m3 y n1 n2⟩
theorem bits_turn {mk f c : Nat} (h : 1 < c) (hf : c < 2 ^ f) : ∃ f', f = f' + 1 ∧ textOf mk (bitsOf f c) = (if c % 2 = 1 then mk else 32) :: textOf mk (bitsOf f' (c / 2)) ∧ c / 2 < 2 ^ f' := by
  cases f with
  | zero => rw [Nat.pow_zero] at hf; omega
  | succ f' =>
    refine ⟨f', rfl, ?_, by rw [Nat.pow_succ] at hf; omega⟩
    show textOf mk (if c ≤ 1 then [] else (c % 2 == 1) :: bitsOf f' (c / 2)) = _
    rw [if_neg (by omega)]
    show (if (c % 2 == 1) = true then mk else 32) :: _ = _
    by_cases q : c % 2 = 1
    · rw [if_pos q, if_pos (by simpa using q)]; rfl
    · rw [if_neg q, if_neg (by simpa using q)]; rfl
theorem bits_done {mk f c : Nat} (h : c ≤ 1) : textOf mk (bitsOf f c) = [] := by
  cases f with
  | zero => rfl
  | succ f' =>
    show textOf mk (if c ≤ 1 then [] else (c % 2 == 1) :: bitsOf f' (c / 2)) = _
    rw [if_pos h]; rfl
noncomputable def whileTest : List Stmt → Expr
  | .While t _ _ _ :: _ => t
  | _ :: r => whileTest r
  | [] => .Constant .none 0 ⟨0, 0, 0, 0⟩
local macro_rules | `(tactic| walk_at "execs cons") => `(tactic| refine hold ?_)
theorem code_loop : ∀ {w : World} {dp u : Nat} {fr : Option (List Env)} {gd : Option (List Code)} {g : Heap} {mg mb : Str → Option Value} {p : Program} {loose : List Str} {mean : ExcName → Option Value} {L : Addr}
    {name qual : Str} {params : Arguments} {body : List Stmt} {scope : Scope} {dV kV doc pm cdv ct oc : Value} {an od : Option Addr} {osl : Array (Option Value)}
    (X' : (hd.heap_1 w.params).In g) (T' : Top p loose mean mg mb g) (hroom : dp < 400) (hu : u < 4000)
    (ho : (hd.heap_1 w.params).lookup 178 = some ⟨oc, od, .func (fnOf name qual params body scope dV kV doc pm an cdv ct), osl⟩)
    (nw : List (Addr × Obj)) (gs : Array GenState) (dr : Drawn) (os : OsState) (mk : Nat) (tm : Tok) (m₀ : Str → Option Value) (code : Nat) (hcode : code ≤ 15) (hm : m₀ (Str.ofString "mark") = some (.str ⟨#[mk]⟩ tm)) (s : Shared) (S : WordSt g L nw gs dr os mk m₀ 0 code [] s)
    (Q : Flow → Shared → Prop) (E : Value → Shared → Prop) (h : ∀ c s', WordSt g L nw gs dr os mk m₀ 0 c (textOf mk (bitsOf 4 code)) s' → Q .next s'),
    codeAny (model PySem.Challenge.rw_re0035_01.row.prog w) (Around.deeper ⟨none, dp, fr, gd, u⟩ (envOfC qual scope L 178 cdv)) (.whileLoop (whileTest (forBody body)) (whileBody (forBody body)) [] (envOfC qual scope L 178 cdv))
      (fun r s' => match r with | .ok f => Q f s' | .error e => E e s') s := by
  k_fill
  intro w dp u fr gd g mg mb p loose mean L name qual params body scope dV kV doc pm cdv ct oc an od osl X' T' hroom hu ho nw gs dr os mk tm m₀ code hcode hm s S Q E h
  have ho₂ := ho
  obtain ⟨q1, q2, q3, q4⟩ := fn_inj ho (by k_is)
  subst q1 q2 q3 q4
  clear ho
  conv in (Code.whileLoop _ _ _ _) => arg 1; whnf
  conv in (Code.whileLoop _ _ _ _) => arg 2; whnf
  refine codeAny_whileLoop (fun n s' => ∃ c wd f, n = c ∧ c ≤ 15 ∧ c < 2 ^ f ∧ f ≤ 4 ∧ wd.length + f = 4 ∧ wd ++ textOf mk (bitsOf f c) = textOf mk (bitsOf 4 code) ∧ WordSt g L nw gs dr os mk m₀ 0 c wd s') ?_ code ⟨code, [], 4, rfl, hcode, by omega, Nat.le_refl _, rfl, rfl, S⟩
  rintro n s₁ ⟨c, wd, f, rfl, hc15, hcf, hf4, hwl, hw, S₁⟩
  obtain ⟨m, h₁, tk, tc, tw, rfl, ht, F, N, m1, m2, m3⟩ := S₁
  k_steps
  · unfold Hold
    (with_reducible rename News _ _ _ _ => N₁)
    (with_reducible rename Fr _ _ _ _ => F₁)
    rename 1 < (n : Int) => hn
    have hn1 : 1 < n := by omega
    obtain ⟨f', e1, e2, e3⟩ := bits_turn (mk := mk) hn1 hcf
    refine wpAny_mono (E := fun _ _ => False) (code_turn X' T' hroom hu ho₂ nw gs dr os mk tm m₀ 0 n wd ⟨hn1, hc15⟩ (by omega) hm _ ⟨m, _, _, tc, tw, rfl, Nat.zero_le _, F₁, N₁, m1, m2, m3⟩) (fun f s₃ z => ?_) fun _ _ y => y.elim
    obtain ⟨rfl, z⟩ := z
    exact ⟨n / 2, by omega, n / 2, _, f', rfl, by omega, e3, by omega, by rw [List.length_append, List.length_singleton]; omega, by rw [← hw, e2]; simp, z⟩
  · (with_reducible rename News _ _ _ _ => N₁)
    (with_reducible rename Fr _ _ _ _ => F₁)
    rename ¬ 1 < (n : Int) => hn
    rw [bits_done (by omega), List.append_nil] at hw
    rw [hw] at m2
    exact h n _ ⟨m, _, _, tc, tw, rfl, Nat.zero_le _, F₁, N₁, m1, m2, m3⟩
end Mine
end

section
open PySem PySem.W PyProof.Rows PySem.Calls
namespace Mine
/-- what stands behind the first while -/
noncomputable def afterWhile (l : List Stmt) : List Stmt := behind 2 l
local macro_rules | `(tactic| walk_at "call builtin:list.append") => `(tactic| refine hold ?_)
local macro_rules | `(tactic| walk_at "call builtin:list.append cons nil") => `(tactic| refine hold ?_)
local macro_rules | `(tactic| walk_at "eval ListComp") => `(tactic| refine hold ?_)
local macro_rules | `(tactic| walk_at "call builtin:str.join") => `(tactic| refine hold ?_)
local macro_rules | `(tactic| walk_at "call builtin:str.join cons nil") => `(tactic| refine hold ?_)
local macro_rules | `(tactic| walk_at "pyIter str") => `(tactic| refine hold ?_)
local macro_rules | `(tactic| walk_at "eval Name") => `(tactic| (k_inBlock; (with_reducible rename Fr _ _ _ _ => kF); with_unfolding_all (refine nameB_local kF (if_pos rfl) ?_ rfl rfl (by decide))))
theorem join_flat (f : Nat → List Nat) : ∀ l : List Nat, Txt.join (Str.ofString "") (l.map fun c => (⟨(f c).toArray⟩ : Str)) = ⟨(l.flatMap f).toArray⟩ := by
  intro l
  unfold Txt.join
  rw [StrLaws.glued_eq_join]
  have e : Str.ofString "" = ⟨#[]⟩ := rfl
  rw [e]
  induction l with
  | nil => rfl
  | cons c r ih =>
    cases r with
    | nil => simp [Str.join]
    | cons d r =>
      rw [List.map_cons, List.map_cons, join_cons_cons]
      rw [List.map_cons] at ih
      rw [ih]
      show (⟨((f c).toArray ++ #[]) ++ ((d :: r).flatMap f).toArray⟩ : Str) = _
      simp [List.flatMap_cons]
theorem add_text (a b : List Nat) : ((⟨a.toArray⟩ : Str) ++ ⟨b.toArray⟩) = ⟨(a ++ b).toArray⟩ := by
  show (⟨a.toArray ++ b.toArray⟩ : Str) = _
  simp
theorem text_len (a : List Nat) : (⟨a.toArray⟩ : Str).length = a.length := by show (List.toArray _).size = _; simp
noncomputable def escF (c : Nat) : List Nat := if c = 34 ∨ c = 92 then [92, c] else [c]
theorem esc_len (l : List Nat) : (l.flatMap escF).length ≤ 2 * l.length := by
  induction l with
  | nil => simp
  | cons c r ih =>
    rw [List.flatMap_cons, List.length_append, List.length_cons]
    have : (escF c).length ≤ 2 := by unfold escF; split <;> simp
    omega
theorem esc_len2 (l : List Nat) : (l.flatMap fun c => [92, c]).length = 2 * l.length := by
  induction l with
  | nil => simp
  | cons c r ih => rw [List.flatMap_cons, List.length_append, List.length_cons, ih]; simp; omega
theorem esc_sum (f : Nat → List Nat) (hf : ∀ c, (f c).length ≤ 2) (l : List Nat) (hl : l.length ≤ 3) : ((l.map fun c => (⟨(f c).toArray⟩ : Str)).map (·.length)).sum + (l.map fun c => (⟨(f c).toArray⟩ : Str)).length * (Str.ofString "").length ≤ 16777216 := by
  have e : ((l.map fun c => (⟨(f c).toArray⟩ : Str)).map (·.length)).sum ≤ 2 * l.length := by
    clear hl
    induction l with
    | nil => simp
    | cons c r ih =>
      rw [List.map_cons, List.map_cons, List.sum_cons, List.length_cons, text_len]
      have := hf c
      omega
  have e2 : (Str.ofString "").length = 0 := rfl
  rw [e2, Nat.mul_zero]
  omega
theorem fdiv75 (c : Nat) : (c : Int).fdiv 75 = ((c / 75 : Nat) : Int) := by rw [Int.fdiv_eq_ediv_of_nonneg _ (by decide)]; omega
theorem esc_yes {n : Nat} (h : (n : Int).fdiv 75 = 1) (hne : ((⟨(wordN n).toArray⟩ : Str) != Str.ofString "") = true) : escN n = true := by
  rw [fdiv75] at h
  unfold escN
  rw [Bool.and_eq_true]
  refine ⟨by rw [beq_iff_eq]; omega, ?_⟩
  cases e : wordN n with
  | nil => rw [e] at hne; exact absurd hne (by decide)
  | cons a r => rfl
theorem esc_no1 {n : Nat} (h : ¬ (n : Int).fdiv 75 = 1) : escN n = false := by
  rw [fdiv75] at h
  unfold escN
  rw [Bool.and_eq_false_iff]
  exact .inl (by rw [beq_eq_false_iff_ne]; omega)
theorem esc_no2 {n : Nat} (hne : ((⟨(wordN n).toArray⟩ : Str) != Str.ofString "") = false) : escN n = false := by
  unfold escN
  rw [Bool.and_eq_false_iff]
  refine .inr ?_
  cases e : wordN n with
  | nil => rfl
  | cons a r =>
    rw [e] at hne
    have : (⟨(a :: r).toArray⟩ : Str) = Str.ofString "" := by simpa using hne
    have := congrArg (fun s => s.cps.toList) this
    simp at this
    cases this
theorem word_signs_ok : ((List.range 150).all fun n => (wordN n).all fun c => [34, 92, 35, 97, 98, 32].contains c) = true := by decide +kernel
theorem word_sign {n i c : Nat} (hn : n < 150) (hc : (⟨(wordN n).toArray⟩ : Str).cps[i]? = some c) : c = 34 ∨ c = 92 ∨ c = 35 ∨ c = 97 ∨ c = 98 ∨ c = 32 := by
  have h := List.all_eq_true.mp (List.all_eq_true.mp word_signs_ok n (List.mem_range.mpr hn)) c (by
    have : (wordN n)[i]? = some c := by simpa using hc
    exact List.mem_of_getElem? this)
  simpa using h
theorem esc_plain {n i c : Nat} (hn : n < 150) (hc : (⟨(wordN n).toArray⟩ : Str).cps[i]? = some c) (h : (Builtin.Str.occurrences (Str.ofString "\"\\") ⟨#[c]⟩ 0 (Str.ofString "\"\\").length 1).isEmpty = true) : (⟨#[c]⟩ : Str) = ⟨(escF c).toArray⟩ := by
  rcases word_sign hn hc with rfl | rfl | rfl | rfl | rfl | rfl
  all_goals first | rfl | exact absurd h (by decide +kernel)
theorem esc_sign {n i c : Nat} (hn : n < 150) (hc : (⟨(wordN n).toArray⟩ : Str).cps[i]? = some c) (h : (Builtin.Str.occurrences (Str.ofString "\"\\") ⟨#[c]⟩ 0 (Str.ofString "\"\\").length 1).isEmpty = false) : (Str.ofString "\\" ++ ⟨#[c]⟩ : Str) = ⟨(escF c).toArray⟩ := by
  rcases word_sign hn hc with rfl | rfl | rfl | rfl | rfl | rfl
  all_goals first | rfl | exact absurd h (by decide +kernel)
/-- behind a turn of law's loop over the numbers -/
inductive WordEnd (g : Heap) (L W M : Addr) (oc : Obj) (ws ms : Array Value) (rest : List (Addr × Obj)) (tx : List Nat) (n : Nat) (tw tm : Tok) (gs : Array GenState) (dr : Drawn) (os : OsState) (m : Str → Option Value) (f : Flow) (s' : Shared) : Prop
  | mk : (f = .next) → ∀ m' h' tk' n1' n2' tt', (s' = ⟨h', gs, dr, tk', os⟩) → (Fr g L h' m') → (News g L h' ((L + 1, oc) :: (W, listOf (ws.push (.str ⟨(wordN n).toArray⟩ tw)) n1') :: (M, listOf (ms.push (.str ⟨#[markN n]⟩ tm)) n2') :: rest)) → (m' (Str.ofString "text") = some (.str ⟨(tx ++ lineN n).toArray⟩ tt')) → (∀ y, y ≠ Str.ofString "text" → m' y = m y) → WordEnd g L W M oc ws ms rest tx n tw tm gs dr os m f s'
/-- words, marks, text: from the while to the turn's end -/
theorem word_tail : ∀ {w : World} {dp u : Nat} {fr : Option (List Env)} {gd : Option (List Code)} {g : Heap} {mg mb : Str → Option Value} {p : Program} {loose : List Str} {mean : ExcName → Option Value} {L : Addr}
    {name qual : Str} {params : Arguments} {body : List Stmt} {scope : Scope} {dV kV doc pm cdv ct oc : Value} {an od : Option Addr} {osl : Array (Option Value)}
    (X' : (hd.heap_1 w.params).In g) (T' : Top p loose mean mg mb g) (hroom : dp < 400) (hu : u < 4000)
    (ho : (hd.heap_1 w.params).lookup 178 = some ⟨oc, od, .func (fnOf name qual params body scope dV kV doc pm an cdv ct), osl⟩)
    (W M : Addr) (oc : Obj) (ws ms : Array Value) (n1 n2 : Nat) (rest : List (Addr × Obj)) (tx : List Nat) (tt : Tok) (hoc : oc.data = .cell (some (.ref M))) (aW : @Ne Nat W (L + 1)) (aM : @Ne Nat M (L + 1)) (aWM : @Ne Nat W M) (aR : ∀ p ∈ rest, @Ne Nat p.1 W ∧ @Ne Nat p.1 M) (hws : ws.size ≤ 10) (hms : ms.size ≤ 10) (htx : tx.length ≤ 100) (gs : Array GenState) (dr : Drawn) (os : OsState) (m : Str → Option Value) (n : Nat) (tn tw tm : Tok) (hn : n < 150) (h : Heap) (tk : Nat) (m1 : m (Str.ofString "n") = some (.int n tn)) (m2 : m (Str.ofString "words") = some (.ref W)) (m3 : m (Str.ofString "text") = some (.str ⟨tx.toArray⟩ tt)) (m4 : m (Str.ofString "mark") = some (.str ⟨#[markN n]⟩ tm)) (m5 : m (Str.ofString "word") = some (.str ⟨(wordN n).toArray⟩ tw)) (F : Fr g L h m) (N : News g L h ((L + 1, oc) :: (W, listOf ws n1) :: (M, listOf ms n2) :: rest)),
    wpAny (model PySem.Challenge.rw_re0035_01.row.prog w) (Around.deeper ⟨none, dp, fr, gd, u⟩ (envOfC qual scope L 178 cdv)) (execs (afterWhile (forBody body)) (envOfC qual scope L 178 cdv))
      (WordEnd g L W M oc ws ms rest tx n tw tm gs dr os m) (fun _ _ => False) ⟨h, gs, dr, tk, os⟩ := by
  k_fill
  intro w dp u fr gd g mg mb p loose mean L name qual params body scope dV kV doc pm cdv ct oc an od osl X' T' hroom hu ho W M oc ws ms n1 n2 rest tx tt hoc aW aM aWM aR hws hms htx gs dr os m n tn tw tm hn h tk m1 m2 m3 m4 m5 F N
  obtain ⟨q1, q2, q3, q4⟩ := fn_inj ho (by k_is)
  subst q1 q2 q3 q4
  clear ho
  conv in (execs _ _) => arg 1; whnf
  k_steps
  unfold Hold
  (with_reducible rename News _ _ _ _ => N₁)
  (with_reducible rename Fr _ _ _ _ => F₁)
  refine append_K F₁ N₁ (Upd.tail (Ne.symm aW) (Upd.head ?_)) ?_ (by rw [sizeLine_eq]; omega)
  · refine List.forall_mem_cons.mpr ⟨Ne.symm aWM, fun p hp => (aR p hp).1⟩
  intro h₂ F₂ N₂
  clear F₁ N₁
  k_steps
  unfold Hold
  (with_reducible rename News _ _ _ _ => N₃)
  (with_reducible rename Fr _ _ _ _ => F₃)
  refine append_K F₃ N₃ (Upd.tail (Ne.symm aM) (Upd.tail aWM (Upd.head fun p hp => (aR p hp).2))) ?_ (by rw [sizeLine_eq]; omega)
  intro h₄ F₄ N₄
  clear F₃ N₃
  have hlen : (⟨tx.toArray⟩ : Str).length ≤ 100 := by show (List.toArray _).size ≤ _; simpa using htx
  have hlw : (⟨(wordN n).toArray⟩ : Str).length ≤ 3 := by show (List.toArray _).size ≤ _; simpa using (wordN_stalk hn).len
  k_steps
  · rename (n : Int).fdiv 75 = 1 => h75
    rename _ = true => hne
    unfold Hold
    refine listComp_step rfl rfl (by decide) ?_
    k_steps
    unfold Hold
    (with_reducible rename News _ _ _ _ => N₅)
    (with_reducible rename Fr _ _ _ _ => F₅)
    refine comp_text (fun c => ⟨[92, c].toArray⟩) rfl (Nat.le_trans hlw (by decide)) F₅ N₅ (by decide) rfl rfl ?_ ?_
    · intro i c t C m₁ gs h tk g hc hg F₆
      clear F₅ N₅
      k_steps
      exact ⟨_, _, rfl, rfl⟩
    · intro D ys nn h₆ tk₆ hs F₆ N₆
      clear F₅ N₅
      k_steps
      unfold Hold
      show wpAny _ _ (call (.builtin "str.join") [.str (Str.ofString "") _, .ref D]) _ _ _
      refine join_list (N₆.isList (by k_mem)) hs (esc_sum (fun c => [92, c]) (fun _ => Nat.le_refl _) _ (by simpa using (wordN_stalk hn).len)) ?_
      intro t' k
      rw [show List.map (fun c => (⟨[92, c].toArray⟩ : Str)) (⟨(wordN n).toArray⟩ : Str).cps.toList = List.map (fun c => ⟨[92, c].toArray⟩) (wordN n) by simp, join_flat (fun c => [92, c])]
      have hj : (⟨((wordN n).flatMap fun c => [92, c]).toArray⟩ : Str).length ≤ 6 := by rw [text_len, esc_len2]; have := text_len (wordN n); omega
      have hq : (⟨tx.toArray⟩ ++ ⟨((wordN n).flatMap fun c => [92, c]).toArray⟩ : Str).length ≤ 106 := by rw [str_add_len]; omega
      k_steps
      (with_reducible rename News _ _ _ _ => N₇)
      (with_reducible rename Fr _ _ _ _ => F₇)
      have hl : tx ++ ((wordN n).flatMap fun c => [92, c]) ++ [10] = tx ++ lineN n := by
        unfold lineN
        rw [if_pos (esc_yes h75 hne), List.append_assoc]
      rw [add_text, show Str.ofString "\n" = ⟨[10].toArray⟩ from rfl, add_text, hl] at F₇
      exact ⟨rfl, _, _, _, _, _, _, rfl, F₇, news_sub N₇ (fun p hp => .tail _ hp), rfl, fun y hy => if_neg hy⟩
  all_goals have he : escN n = false := by first | exact esc_no1 (by assumption) | exact esc_no2 (by assumption)
  all_goals unfold Hold
  all_goals refine listComp_step rfl rfl (by decide) ?_
  all_goals k_steps
  all_goals unfold Hold
  all_goals (with_reducible rename News _ _ _ _ => N₅)
  all_goals (with_reducible rename Fr _ _ _ _ => F₅)
  all_goals refine comp_text (fun c => ⟨(escF c).toArray⟩) rfl (Nat.le_trans hlw (by decide)) F₅ N₅ (by decide) rfl rfl ?_ ?_
  · intro i c t C m₁ gs h tk g hc hg F₆
    clear F₅ N₅
    k_steps
    · rw [esc_plain hn hc (by assumption)]
      exact ⟨_, _, rfl, rfl⟩
    · rw [esc_sign hn hc (by assumption)]
      exact ⟨_, _, rfl, rfl⟩
  · intro D ys nn h₆ tk₆ hs F₆ N₆
    clear F₅ N₅
    have e0 : (⟨tx.toArray⟩ : Str) ++ Str.ofString "\"" = ⟨(tx ++ [34]).toArray⟩ := add_text tx [34]
    rw [e0]
    have hl0 : (⟨(tx ++ [34]).toArray⟩ : Str).length ≤ 101 := by rw [text_len, List.length_append, List.length_singleton]; omega
    k_steps
    unfold Hold
    show wpAny _ _ (call (.builtin "str.join") [.str (Str.ofString "") _, .ref D]) _ _ _
    refine join_list (N₆.isList (by k_mem)) hs (esc_sum escF (fun c => by unfold escF; split <;> simp) _ (by simpa using (wordN_stalk hn).len)) ?_
    intro t' k
    rw [show List.map (fun c => (⟨(escF c).toArray⟩ : Str)) (⟨(wordN n).toArray⟩ : Str).cps.toList = List.map (fun c => ⟨(escF c).toArray⟩) (wordN n) by simp, join_flat escF]
    have hj : (⟨((wordN n).flatMap escF).toArray⟩ : Str).length ≤ 6 := by rw [text_len]; have := esc_len (wordN n); have := text_len (wordN n); omega
    have hq : (⟨(tx ++ [34]).toArray⟩ ++ ⟨((wordN n).flatMap escF).toArray⟩ : Str).length ≤ 107 := by rw [str_add_len]; omega
    k_steps
    (with_reducible rename News _ _ _ _ => N₇)
    (with_reducible rename Fr _ _ _ _ => F₇)
    have hl : tx ++ [34] ++ (wordN n).flatMap escF ++ [34, 10] = tx ++ lineN n := by
      unfold lineN
      rw [if_neg (by rw [he]; decide)]
      simp only [List.append_assoc]
      rfl
    rw [add_text, show Str.ofString "\"\n" = ⟨[34, 10].toArray⟩ from rfl, add_text, hl] at F₇
    exact ⟨rfl, _, _, _, _, _, _, rfl, F₇, news_sub N₇ (fun p hp => .tail _ hp), rfl, fun y hy => if_neg hy⟩
  · intro i c t C m₁ gs h tk g hc hg F₆
    clear F₅ N₅
    k_steps
    · rw [esc_plain hn hc (by assumption)]
      exact ⟨_, _, rfl, rfl⟩
    · rw [esc_sign hn hc (by assumption)]
      exact ⟨_, _, rfl, rfl⟩
  · intro D ys nn h₆ tk₆ hs F₆ N₆
    clear F₅ N₅
    have e0 : (⟨tx.toArray⟩ : Str) ++ Str.ofString "\"" = ⟨(tx ++ [34]).toArray⟩ := add_text tx [34]
    rw [e0]
    have hl0 : (⟨(tx ++ [34]).toArray⟩ : Str).length ≤ 101 := by rw [text_len, List.length_append, List.length_singleton]; omega
    k_steps
    unfold Hold
    show wpAny _ _ (call (.builtin "str.join") [.str (Str.ofString "") _, .ref D]) _ _ _
    refine join_list (N₆.isList (by k_mem)) hs (esc_sum escF (fun c => by unfold escF; split <;> simp) _ (by simpa using (wordN_stalk hn).len)) ?_
    intro t' k
    rw [show List.map (fun c => (⟨(escF c).toArray⟩ : Str)) (⟨(wordN n).toArray⟩ : Str).cps.toList = List.map (fun c => ⟨(escF c).toArray⟩) (wordN n) by simp, join_flat escF]
    have hj : (⟨((wordN n).flatMap escF).toArray⟩ : Str).length ≤ 6 := by rw [text_len]; have := esc_len (wordN n); have := text_len (wordN n); omega
    have hq : (⟨(tx ++ [34]).toArray⟩ ++ ⟨((wordN n).flatMap escF).toArray⟩ : Str).length ≤ 107 := by rw [str_add_len]; omega
    k_steps
    (with_reducible rename News _ _ _ _ => N₇)
    (with_reducible rename Fr _ _ _ _ => F₇)
    have hl : tx ++ [34] ++ (wordN n).flatMap escF ++ [34, 10] = tx ++ lineN n := by
      unfold lineN
      rw [if_neg (by rw [he]; decide)]
      simp only [List.append_assoc]
      rfl
    rw [add_text, show Str.ofString "\"\n" = ⟨[34, 10].toArray⟩ from rfl, add_text, hl] at F₇
    exact ⟨rfl, _, _, _, _, _, _, rfl, F₇, news_sub N₇ (fun p hp => .tail _ hp), rfl, fun y hy => if_neg hy⟩
end Mine
end

section
open PySem PySem.W PyProof.Rows PySem.Calls
namespace Mine
theorem mark_items : ((List.range 150).all fun (n : Nat) => (Txt.item (Str.ofString "\"\\#ab") (((n : Int).fdiv 15).fmod 5) == (⟨#[markN n]⟩ : Str)) && ((n : Int).fmod 15 + 1 == ((n % 15 + 1 : Nat) : Int))) = true := by decide +kernel
theorem mark_item {n : Nat} (h : n < 150) : Txt.item (Str.ofString "\"\\#ab") (((n : Int).fdiv 15).fmod 5) = ⟨#[markN n]⟩ ∧ (n : Int).fmod 15 + 1 = ((n % 15 + 1 : Nat) : Int) := by
  have q := List.all_eq_true.mp mark_items n (List.mem_range.mpr h)
  rw [Bool.and_eq_true, beq_iff_eq, beq_iff_eq] at q
  exact q
local macro_rules | `(tactic| walk_at "exec While") => `(tactic| ((refine wpAny_While ?_); refine hold ?_))
local macro_rules | `(tactic| walk_at "execs cons") => `(tactic| ((with_reducible refine wpAny_execs_cons ?_); (try dsimp only); refine wpAny_with_toks (Nat.le_refl _) ?_))
/-- behind a turn of law's loop over the numbers, the mark's token told -/
inductive WordPost (g : Heap) (L W M : Addr) (oc : Obj) (ws ms : Array Value) (rest : List (Addr × Obj)) (tx : List Nat) (n : Nat) (gs : Array GenState) (dr : Drawn) (os : OsState) (m : Str → Option Value) (f : Flow) (s' : Shared) : Prop
  | mk : (f = .next) → ∀ m' h' tk' n1' n2' tw tm tt', (s' = ⟨h', gs, dr, tk', os⟩) → (Fr g L h' m') → (News g L h' ((L + 1, oc) :: (W, listOf (ws.push (.str ⟨(wordN n).toArray⟩ tw)) n1') :: (M, listOf (ms.push (.str ⟨#[markN n]⟩ tm)) n2') :: rest)) → (m' (Str.ofString "text") = some (.str ⟨(tx ++ lineN n).toArray⟩ tt')) → ((∀ y, y ≠ Str.ofString "mark" → y ≠ Str.ofString "code" → y ≠ Str.ofString "word" → y ≠ Str.ofString "text" → m' y = m y)) → (tm ≠ 0) → (@LT.lt Nat _ tm tk') → WordPost g L W M oc ws ms rest tx n gs dr os m f s'
theorem word_turn : ∀ {w : World} {dp u : Nat} {fr : Option (List Env)} {gd : Option (List Code)} {g : Heap} {mg mb : Str → Option Value} {p : Program} {loose : List Str} {mean : ExcName → Option Value} {L : Addr}
    {name qual : Str} {params : Arguments} {body : List Stmt} {scope : Scope} {dV kV doc pm cdv ct oc : Value} {an od : Option Addr} {osl : Array (Option Value)}
    (X' : (hd.heap_1 w.params).In g) (T' : Top p loose mean mg mb g) (hroom : dp < 400) (hu : u < 4000)
    (ho : (hd.heap_1 w.params).lookup 178 = some ⟨oc, od, .func (fnOf name qual params body scope dV kV doc pm an cdv ct), osl⟩)
    (W M : Addr) (oc : Obj) (ws ms : Array Value) (n1 n2 : Nat) (rest : List (Addr × Obj)) (tx : List Nat) (tt : Tok) (hoc : oc.data = .cell (some (.ref M))) (aW : @Ne Nat W (L + 1)) (aM : @Ne Nat M (L + 1)) (aWM : @Ne Nat W M) (aR : ∀ p ∈ rest, @Ne Nat p.1 W ∧ @Ne Nat p.1 M) (hws : ws.size ≤ 10) (hms : ms.size ≤ 10) (htx : tx.length ≤ 100) (gs : Array GenState) (dr : Drawn) (os : OsState) (m : Str → Option Value) (n : Nat) (tn : Tok) (hn : n < 150) (h : Heap) (tk : Nat) (m1 : m (Str.ofString "n") = some (.int n tn)) (m2 : m (Str.ofString "words") = some (.ref W)) (m3 : m (Str.ofString "text") = some (.str ⟨tx.toArray⟩ tt)) (F : Fr g L h m) (N : News g L h ((L + 1, oc) :: (W, listOf ws n1) :: (M, listOf ms n2) :: rest)),
    wpAny (model PySem.Challenge.rw_re0035_01.row.prog w) (Around.deeper ⟨none, dp, fr, gd, u⟩ (envOfC qual scope L 178 cdv)) (execs (forBody body) (envOfC qual scope L 178 cdv))
      (WordPost g L W M oc ws ms rest tx n gs dr os m) (fun _ _ => False) ⟨h, gs, dr, tk, os⟩ := by
  k_fill
  intro w dp u fr gd g mg mb p loose mean L name qual params body scope dV kV doc pm cdv ct oc an od osl X' T' hroom hu ho W M oc ws ms n1 n2 rest tx tt hoc aW aM aWM aR hws hms htx gs dr os m n tn hn h tk m1 m2 m3 F N
  have ho₂ := ho
  obtain ⟨q1, q2, q3, q4⟩ := fn_inj ho (by k_is)
  subst q1 q2 q3 q4
  clear ho
  conv in (execs _ _) => arg 1; whnf
  k_steps
  unfold Hold
  (with_reducible rename News _ _ _ _ => N₁)
  (with_reducible rename Fr _ _ _ _ => F₁)
  rw [(mark_item hn).1, (mark_item hn).2] at F₁
  refine codeAny_mono (code_loop X' T' hroom hu ho₂ _ gs dr os (markN n) _ _ (n % 15 + 1) (by omega) rfl _ ⟨_, _, _, _, _, rfl, Nat.zero_le _, F₁, N₁, rfl, rfl, fun y _ _ => rfl⟩ (fun f s' => f = .next ∧ ∃ c, WordSt g L _ gs dr os (markN n) _ 0 c (wordN n) s') (fun _ _ => False) (fun c s' z => ⟨rfl, c, z⟩)) ?_
  intro r s' z
  cases r with
  | error e => exact False.elim z
  | ok f =>
    obtain ⟨rfl, c, m', h', tk', tc, tw, rfl, _, F₂, N₂, e1, e2, e3⟩ := z
    have f1 : m' (Str.ofString "mark") = some _ := e3 _ (by decide) (by decide)
    have f2 : m' (Str.ofString "n") = some (.int n tn) := (e3 _ (by decide) (by decide)).trans m1
    have f3 : m' (Str.ofString "words") = some (.ref W) := (e3 _ (by decide) (by decide)).trans m2
    have f4 : m' (Str.ofString "text") = some (.str ⟨tx.toArray⟩ tt) := (e3 _ (by decide) (by decide)).trans m3
    intro hle
    dsimp only
    dsimp only at hle f1
    refine wpAny_with_toks (Nat.le_refl _) (wpAny_mono (word_tail X' T' hroom hu ho₂ W M oc ws ms n1 n2 rest tx tt hoc aW aM aWM aR hws hms htx gs dr os m' n tn tw _ hn h' tk' f2 f3 f4 f1 e2 F₂ N₂) ?_ fun _ _ y _ => y)
    rintro f s' ⟨rfl, m₃, h₃, tk₃, k1, k2, tt', rfl, F₃, N₃, g1, g2⟩ hle2
    refine ⟨rfl, m₃, h₃, tk₃, k1, k2, tw, _, tt', rfl, F₃, N₃, g1, fun y b1 b2 b3 b4 => (g2 y b4).trans ((e3 y b2 b3).trans ?_), ?_, ?_⟩
    · dsimp only
      rw [if_neg b3, if_neg b2, if_neg b1]
    · exact Nat.succ_ne_zero _
    · replace hle2 : tk' ≤ tk₃ := hle2
      dsimp only at *
      omega
end Mine
end

section
open PySem PySem.W PyProof.Rows
namespace Mine
theorem law_said : PySem.Challenge.rw_re0035_01.wellSaid = true := by kernel_rfl
noncomputable def lawView : Program := view PySem.Challenge.pw_re0035_01 [0, 2, 4, 5, 7, 9, 10, 11, 12]
noncomputable def lawAs : List Addr := [2, 3, 15, 17, 18, 20, 21, 22, 24, 25, 27, 28, 29, 32, 37, 38, 39, 41, 42, 44, 45, 46, 48, 49, 51, 52, 53, 54, 56, 57, 59, 60, 61, 62, 64, 65, 67, 68, 69, 71, 72, 74, 75, 76, 78, 79, 81, 82, 83, 84, 86, 87, 89, 90, 91, 93, 94, 96, 97, 98, 99, 101, 102, 104, 105, 106, 107, 108, 109, 110, 120, 122, 123, 125, 126, 127, 129, 130, 132, 133, 134, 136, 137, 139, 140, 141, 143, 144, 146, 147, 148, 149, 150, 151, 152, 155, 157, 158, 160, 161, 162, 164, 165, 167, 168, 169, 172, 173, 174, 177, 178]
noncomputable def lawHook : Hook := kmHook Mine.hd.heap_1 lawAs (fun _ => by kernel_rfl) [156, 70, 77]
noncomputable def lawX (s : Shared) : Bool := xlAt lawView [] s && recOk (RowW.records (OpenRow.toRowW PySem.Challenge.rw_re0035_01.row)) s
theorem law_left : LeftO (OpenRow.toRowW PySem.Challenge.rw_re0035_01.row).prog lawView [Str.ofString "_Accumulator"] lawX (Hook.obs lawHook) (Hook.val lawHook) 2228 := by
  intro w
  kernel_rfl
end Mine
end

section
open PySem PySem.W PyProof.Rows PySem.Calls
local macro_rules | `(tactic| walk_at "execs cons") => `(tactic| refine hold ?_)
local macro_rules | `(tactic| walk_at "pyIter ref") => `(tactic| refine hold ?_)

section
open PySem PySem.W PyProof.Rows PySem.Calls
local macro_rules | `(tactic| walk_at "eval ListComp") => `(tactic| refine hold ?_)
local macro_rules | `(tactic| walk_at "call ref") => `(tactic| refine hold ?_)
local macro_rules | `(tactic| walk_at "eval Name") => `(tactic| (k_inBlock; (with_reducible rename Fr _ _ _ _ => kF); with_unfolding_all (refine nameB_local kF (if_pos rfl) ?_ rfl rfl (by decide))))
local macro_rules | `(tactic| walk_at "eval Name") => `(tactic| (k_inBlock; (with_reducible rename News _ _ _ _ => kN); with_unfolding_all (refine nameB_cell rfl (kN.get (by k_mem)) (by assumption) ?_ rfl rfl (by decide))))

section
open PySem PySem.W PyProof.Rows PySem.Calls
namespace Mine
local macro_rules | `(tactic| walk_at "subscriptTail Name Tuple ref ref") => `(tactic| refine hold ?_)
local macro_rules | `(tactic| walk_at "subscriptTail Name Tuple") => `(tactic| refine hold ?_)
theorem end_of {x y x' y' : Int} {n : Nat} (h1 : x = x') (h2 : y = y') (hn : n = 2 := by rfl) : Flow.ret (Value.bool (decide (List.take n [x, y] = [x', y']))) = Flow.ret (Value.bool true) := by
  subst hn
  rw [h1, h2, decide_eq_true (by rfl)]
/-- what the law leaves: True, and all old objects but the growing tables -/
inductive LawPost (g : Heap) (os : OsState) (f : Flow) (s' : Shared) : Prop
  | mk : (f = .ret (.bool true)) → (AllBare s'.gens) → (s'.os = os) → ((∀ b o, g.get? b = some o → s'.heap.get? b = some o)) → ((∃ o, s'.heap.get? 77 = some o ∧ TabIs o)) → ((∃ o, s'.heap.get? 70 = some o ∧ TabIs o)) → (∃ o, s'.heap.get? 156 = some o ∧ TabIs o) → LawPost g os f s'
inductive EndJ (L : Addr) (lh : Addr) (lm : Addr) (om : Obj) (oh : Obj) (W : Nat → Str) (tw : Nat → Tok) (nh : Nat) (ms : Nat → Nat) (mt : Nat → Tok) (nm : Nat) (ws : Nat → List Nat) (i : Nat) (ys : List Value) (news : List (Addr × Obj)) (gs : Array GenState) : Prop
  | mk : (AllBare gs) → ∀ p77 p70, (news = [(L + 1, om), (L + 1 + 1 + 1, oh), (lh, heardO W tw nh), (lm, marksO ms mt nm), (77, p77), (70, p70)]) → (TabIs p77) → (TabIs p70) → (IntsAre ys ([WinOf 0 (totV ms ws 3), WinOf 1 (totV ms ws 3)].take i)) → EndJ L lh lm om oh W tw nh ms mt nm ws i ys news gs
theorem law_end : ∀ {w : World} {dp u : Nat} {fr : Option (List Env)} {gd : Option (List Code)} {g : Heap} {mg mb : Str → Option Value} {p : Program} {loose : List Str} {mean : ExcName → Option Value} {L : Addr}
    {name qual : Str} {params : Arguments} {body : List Stmt} {scope : Scope} {dV kV doc pm cdv ct oc : Value} {an od : Option Addr} {osl : Array (Option Value)}
    (X' : (hd.heap_1 w.params).In g) (T' : Top p loose mean mg mb g) (hroom : dp < 310) (hu : u < 1000)
    (ho : (hd.heap_1 w.params).lookup 178 = some ⟨oc, od, .func (fnOf name qual params body scope dV kV doc pm an cdv ct), osl⟩)
    (lh lm D sl : Addr) (om oh oD o77 o70 o156 : Obj) (nh nm nsl : Nat) (W : Nat → Str) (tw mt : Nat → Tok) (ms : Nat → Nat) (ws : Nat → List Nat) (vl : List Value) (K KK : List (Addr × Obj)) (hKK : ∀ p ∈ KK, p ∈ K) (xs : List (List Int × Addr × Value))
    (dm : om.data = .cell (some (.ref lm))) (dh : oh.data = .cell (some (.ref lh))) (Wn : WinTab PySem.Challenge.rw_re0035_01.row.prog w oD xs KK)
    (il : IntsAre vl [((W 0).length : Int), ((W 1).length : Int), ((W 2).length : Int)]) (hw : ∀ j, (W j).cps.toList = ws j) (hst : ∀ j, j < 3 → StalkW (ms j) (ws j)) (hmt0 : ∀ j, j < 3 → mt j ≠ 0)
    (hval : ∀ mv : Nat, mv < 2 → ∃ T, atKey xs [((W 0).length : Int), ((W 1).length : Int), ((W 2).length : Int), (mv : Int)] = some (T, .bool (if mv = 0 then decide (0 < totV ms ws 3) else decide (totV ms ws 3 < 0))))
    (t77 : TabIs o77) (t70 : TabIs o70) (t156 : TabIs o156) (g77 : CodeKnown g 81 77) (g70 : CodeKnown g 74 70) (h77 : @LT.lt Nat _ 77 L) (h70 : @LT.lt Nat _ 70 L) (h156 : @LT.lt Nat _ 156 L) (hlhL : @Ne Nat lh lm)
    (s : Shared) (G : AllBare s.gens) (hmt : ∀ j, j < 3 → @LT.lt Nat _ (mt j) s.toks) (m : Str → Option Value)
    (m1 : m (Str.ofString "sizes") = some (.ref sl)) (m2 : m (Str.ofString "wins") = some (.ref D))
    (F : Fr g L s.heap m) (N : News g L s.heap ((L + 1, om) :: (L + 1 + 1 + 1, oh) :: (lh, heardO W tw nh) :: (lm, marksO ms mt nm) :: (sl, listOf vl.toArray nsl) :: (D, oD) :: (77, o77) :: (70, o70) :: (156, o156) :: K)),
    wpAny (model PySem.Challenge.rw_re0035_01.row.prog w) (Around.deeper ⟨none, dp, fr, gd, u⟩ (envOfC qual scope L 178 cdv)) (execs (afterFor (afterFor body)) (envOfC qual scope L 178 cdv))
      (LawPost g s.os) (fun _ _ => False) s := by
  k_fill
  intro w dp u fr gd g mg mb p loose mean L name qual params body scope dV kV doc pm cdv ct oc an od osl X' T' hroom hu ho lh lm D sl om oh oD o77 o70 o156 nh nm nsl W tw mt ms ws vl K KK hKK xs dm dh Wn il hw hst hmt0 hval t77 t70 t156 g77 g70 h77 h70 h156 hlhL s G hmt m m1 m2 F N
  obtain ⟨q1, q2, q3, q4⟩ := fn_inj ho (by k_is)
  subst q1 q2 q3 q4
  clear ho
  conv in (execs _ _) => arg 1; whnf
  obtain ⟨U0, hv0⟩ := hval 0 (by decide)
  obtain ⟨U1, hv1⟩ := hval 1 (by decide)
  clear hval
  have hv0 : atKey xs [((W 0).length : Int), ((W 1).length : Int), ((W 2).length : Int), 0] = some (U0, .bool (decide (0 < totV ms ws 3))) := hv0
  have hv1 : atKey xs [((W 0).length : Int), ((W 1).length : Int), ((W 2).length : Int), 1] = some (U1, .bool (decide (totV ms ws 3 < 0))) := hv1
  (with_reducible refine wpAny_execs_cons ?_); (try dsimp only); refine wpAny_with_toks (Nat.le_refl _) ?_
  k_steps
  unfold Hold
  (with_reducible rename News _ _ _ _ => N₁)
  (with_reducible rename Fr _ _ _ _ => F₁)
  refine wins_item (ks := [((W 0).length : Int), ((W 1).length : Int), ((W 2).length : Int), 0]) (by simp only [units_deeper]; unfold cLine; omega) Wn (N₁.get (by k_mem)) (fun p hp => N₁.get (.tail _ (.tail _ (.tail _ (.tail _ (.tail _ (.tail _ (.tail _ (.tail _ (.tail _ (.tail _ (hKK p hp)))))))))))) (N₁.get (.head _)) ⟨rfl, _, _, rfl, .cons (by simp [intKind, Value.isInt]) (.cons (by simp [intKind, Value.isInt]) (.cons (by simp [intKind, Value.isInt]) (.cons (by simp [intKind, Value.isInt]) .nil)))⟩ hv0 ?_
  intro t0
  k_steps
  unfold Hold
  (with_reducible rename News _ _ _ _ => N₂)
  (with_reducible rename Fr _ _ _ _ => F₂)
  replace N₂ := news_sub N₂ (fun p hp => .tail _ hp)
  (with_reducible refine wpAny_execs_cons ?_); (try dsimp only); refine wpAny_with_toks (Nat.le_refl _) ?_
  k_steps
  unfold Hold
  (with_reducible rename News _ _ _ _ => N₃)
  (with_reducible rename Fr _ _ _ _ => F₃)
  refine wins_item (ks := [((W 0).length : Int), ((W 1).length : Int), ((W 2).length : Int), 1]) (by simp only [units_deeper]; unfold cLine; omega) Wn (N₃.get (by k_mem)) (fun p hp => N₃.get (.tail _ (.tail _ (.tail _ (.tail _ (.tail _ (.tail _ (.tail _ (.tail _ (.tail _ (.tail _ (hKK p hp)))))))))))) (N₃.get (.head _)) ⟨rfl, _, _, rfl, .cons (by simp [intKind, Value.isInt]) (.cons (by simp [intKind, Value.isInt]) (.cons (by simp [intKind, Value.isInt]) (.cons (by simp [intKind, Value.isInt]) .nil)))⟩ hv1 ?_
  intro t1
  k_steps
  unfold Hold
  (with_reducible rename News _ _ _ _ => N₄)
  (with_reducible rename Fr _ _ _ _ => F₄)
  replace N₄ := news_sub N₄ (fun p hp => .tail _ hp)
  (with_reducible refine wpAny_execs_cons ?_); (try dsimp only); refine wpAny_with_toks (Nat.le_refl _) ?_
  k_steps
  unfold Hold
  refine listComp_step rfl rfl (by decide) ?_
  k_steps
  unfold Hold
  (with_reducible rename News _ _ _ _ => N₅)
  (with_reducible rename Fr _ _ _ _ => F₅)
  rename_i TT hT lT
  obtain ⟨t2, t3, hTT, N₆⟩ : ∃ t2 t3, hT.get? TT = some (tupI2 0 t2 1 t3) ∧ News g L hT ([(L + 1, om), (L + 1 + 1 + 1, oh), (lh, heardO W tw nh), (lm, marksO ms mt nm), (77, o77), (70, o70)] : List (Addr × Obj)) := ⟨_, _, N₅.get (.head _), news_sub N₅ (by
    walk_at "my sub")⟩
  obtain ⟨b1, b2, b3, b4, _, _, b7, b8, _⟩ := lT
  have CF := comp_facts N₆
  have hgas : ∀ b ∈ [L + 1, L + 1 + 1 + 1, lh, lm, 77, 70], g.get? b = none := CF.new
  have hLas : L ∉ [L + 1, L + 1 + 1 + 1, lh, lm, 77, 70] := CF.loc
  refine comp_tupleT (as := [L + 1, L + 1 + 1 + 1, lh, lm, 77, 70]) (items := #[.int 0 t2, .int 1 t3]) (news₀ := [(L + 1, om), (L + 1 + 1 + 1, oh), (lh, heardO W tw nh), (lm, marksO ms mt nm), (77, o77), (70, o70)])
    (EndJ L lh lm om oh W tw nh ms mt nm ws) rfl ⟨_, hTT, rfl, _, rfl⟩ (by show 2 ≤ 1000; decide) ?_ ?_ ?_ ⟨G, o77, o70, rfl, t77, t70, .nil⟩ (by decide) rfl rfl ?_ ?_
  · intro hb
    simp only [List.mem_cons, List.not_mem_nil, or_false] at hb
    rcases hb with e | e | e | e | e | e
    · exact absurd e (Nat.ne_of_gt b1)
    · exact absurd e (Nat.ne_of_gt b2)
    · exact absurd e (Nat.ne_of_gt b3)
    · exact absurd e (Nat.ne_of_gt b4)
    · exact absurd e (Nat.ne_of_gt b7)
    · exact absurd e (Nat.ne_of_gt b8)
  · exact CF.has
  · exact CF.old
  · rintro i v ys Dl C I oI m₄ news₄ gs h₄ tk₄ nn g₂ hi ⟨G₄, p77, p70, rfl, u77, u70, hz⟩ B hDl hCn hne hl htk F₇ N₇
    have up := B.from F₅ hgas
    have X2 := X'.keeps up
    have T2 := T'.keeps up
    have hi2 : i < 2 := by have := (Array.getElem?_eq_some_iff.mp hi).1; simpa using this
    have hv : ∃ t, v = .int (i : Nat) t := by
      rcases lt2 (i := i) (by omega) with rfl | rfl
      · exact ⟨t2, by simpa using hi.symm⟩
      · exact ⟨t3, by simpa using hi.symm⟩
    obtain ⟨tv, rfl⟩ := hv
    have d77 := hne (77, p77) (by k_mem)
    have d70 := hne (70, p70) (by k_mem)
    have e77 := N₆.get (a := 77) (o := o77) (by k_mem)
    have e70 := N₆.get (a := 70) (o := o70) (by k_mem)
    clear X' T' F₅ N₅
    k_steps
    unfold Hold
    (with_reducible rename News _ _ _ _ => N₈)
    (with_reducible rename Fr _ _ _ _ => F₈)
    show wpAny _ _ (call (.ref 173) [.ref lh, .ref lm, .int (i : Nat) tv]) _ _ _
    have l77 := (N₈ (77, p77) (by k_mem)).1
    have l70 := (N₈ (70, p70) (by k_mem)).1
    refine play_c X2 T2 F₈.keep (by dsimp only; omega) (by dsimp only; omega) lh lm (W 0) (W 1) (W 2) (ms 0) (ms 1) (ms 2) (tw 0) (tw 1) (tw 2) (mt 0) (mt 1) (mt 2) tv nh nm i (N₈ (lh, _) (.tail _ (.tail _ (.tail _ (.tail _ (.head _)))))).1 (N₈ (lm, _) (.tail _ (.tail _ (.tail _ (.tail _ (.tail _ (.head _))))))).1
      (g77 _ _ (fun b o e => F₈.keep b o (up b o e)) l77 u77) (B.hid 77 (by simp)) (g70 _ _ (fun b o e => F₈.keep b o (up b o e)) l70 u70) (B.hid 70 (by simp)) G₄ (B.hid lh (by simp)) (B.hid lm (by simp)) ws ms mt (hw 0) (hw 1) (hw 2) rfl rfl rfl rfl rfl rfl (by omega) hst hmt0 (fun j hj => by have := hmt j hj; dsimp only at *; omega) ?_
    intro t' s' G' hos hdr hk hC hC'
    obtain ⟨r77, s77, v77⟩ := tab_of_code hC
    obtain ⟨r70, s70, v70⟩ := tab_of_code hC'
    obtain ⟨h5, gs5, dr5, tk5, os5⟩ := s'
    dsimp only at hos hdr hk s77 s70
    subst hos hdr
    have c77 : @Ne Nat C 77 := fun e => by
      have e : C = 77 := e
      rw [e, e77] at hCn; cases hCn
    have c70 : @Ne Nat C 70 := fun e => by
      have e : C = 70 := e
      rw [e, e70] at hCn; cases hCn
    have kp : ∀ p ∈ ((Dl, listOf ys.toArray nn) :: (I, oI) :: (L + 1, om) :: (L + 1 + 1 + 1, oh) :: (lh, heardO W tw nh) :: (lm, marksO ms mt nm) :: [] : List (Addr × Obj)), p.1 ≠ 77 ∧ p.1 ≠ 70 := by
      refine List.forall_mem_cons.mpr ⟨⟨Ne.symm d77.1, Ne.symm d70.1⟩, List.forall_mem_cons.mpr ⟨⟨Ne.symm d77.2, Ne.symm d70.2⟩, List.forall_mem_cons.mpr ⟨⟨?_, ?_⟩, List.forall_mem_cons.mpr ⟨⟨?_, ?_⟩, List.forall_mem_cons.mpr ⟨⟨?_, ?_⟩, List.forall_mem_cons.mpr ⟨⟨?_, ?_⟩, List.forall_mem_nil _⟩⟩⟩⟩⟩⟩
      · exact Nat.ne_of_gt (Nat.lt_succ_of_lt h77)
      · exact Nat.ne_of_gt (Nat.lt_succ_of_lt h70)
      · exact Nat.ne_of_gt (Nat.lt_succ_of_lt (Nat.lt_succ_of_lt (Nat.lt_succ_of_lt h77)))
      · exact Nat.ne_of_gt (Nat.lt_succ_of_lt (Nat.lt_succ_of_lt (Nat.lt_succ_of_lt h70)))
      · exact tab_ne N₈ (P := 77) (o := p77) (by k_mem) u77 (p := (lh, _)) (.tail _ (.tail _ (.tail _ (.tail _ (.head _))))) (fun q e => by cases e)
      · exact tab_ne N₈ (P := 70) (o := p70) (by k_mem) u70 (p := (lh, _)) (.tail _ (.tail _ (.tail _ (.tail _ (.head _))))) (fun q e => by cases e)
      · exact tab_ne N₈ (P := 77) (o := p77) (by k_mem) u77 (p := (lm, _)) (.tail _ (.tail _ (.tail _ (.tail _ (.tail _ (.head _)))))) (fun q e => by cases e)
      · exact tab_ne N₈ (P := 70) (o := p70) (by k_mem) u70 (p := (lm, _)) (.tail _ (.tail _ (.tail _ (.tail _ (.tail _ (.head _)))))) (fun q e => by cases e)
    have kq : ∀ p ∈ ((Dl, listOf ys.toArray nn) :: (I, oI) :: (L + 1, om) :: (L + 1 + 1 + 1, oh) :: (lh, heardO W tw nh) :: (lm, marksO ms mt nm) :: [] : List (Addr × Obj)), p ∈ ((Dl, listOf ys.toArray nn) :: (I, oI) :: [(L + 1, om), (L + 1 + 1 + 1, oh), (lh, heardO W tw nh), (lm, marksO ms mt nm), (77, p77), (70, p70)] : List (Addr × Obj)) := by
      walk_at "my sub"
    refine ⟨_, [(L + 1, om), (L + 1 + 1 + 1, oh), (lh, heardO W tw nh), (lm, marksO ms mt nm), (77, r77), (70, r70)], gs5, h5, tk5, rfl, ⟨F₈.ns.at' fun o e => hk _ o c77 c70 e, fun b o e => hk b o (fun q => by rw [q, B.hid 77 (by simp)] at e; cases e) (fun q => by rw [q, B.hid 70 (by simp)] at e; cases e) (F₈.keep b o e), F₈.above⟩, ?_, ?_, G', r77, r70, rfl, v77, v70, ?_⟩
    · intro p hp
      have go : ∀ p ∈ ((Dl, listOf ys.toArray nn) :: (I, oI) :: (L + 1, om) :: (L + 1 + 1 + 1, oh) :: (lh, heardO W tw nh) :: (lm, marksO ms mt nm) :: [] : List (Addr × Obj)), h5.get? p.1 = some p.2 ∧ p.1 ≠ C ∧ g₂.get? p.1 = none := fun p hp => ⟨hk _ _ (kp p hp).1 (kp p hp).2 (N₈ p (kq p hp)).1, (N₈ p (kq p hp)).2⟩
      simp only [List.mem_cons, List.not_mem_nil, or_false] at hp
      rcases hp with rfl | rfl | rfl | rfl | rfl | rfl | rfl | rfl
      · exact go _ (by k_mem)
      · exact go _ (by k_mem)
      · exact go _ (by k_mem)
      · exact go _ (by k_mem)
      · exact go _ (by k_mem)
      · exact go _ (by k_mem)
      · exact ⟨s77, Ne.symm c77, B.hid 77 (by simp)⟩
      · exact ⟨s70, Ne.symm c70, B.hid 70 (by simp)⟩
    · intro p hp
      simp only [List.mem_cons, List.not_mem_nil, or_false] at hp
      rcases hp with rfl | rfl | rfl | rfl | rfl | rfl
      · exact hne (L + 1, om) (by k_mem)
      · exact hne (L + 1 + 1 + 1, oh) (by k_mem)
      · exact hne (lh, heardO W tw nh) (by k_mem)
      · exact hne (lm, marksO ms mt nm) (by k_mem)
      · exact d77
      · exact d70
    · rcases lt2 (i := i) (by omega) with rfl | rfl
      · exact hz.append (.cons _ _ .nil)
      · exact hz.append (.cons _ _ .nil)
  · rintro Dl C ys m₄ news₄ gs h₄ tk₄ nn g₂ ⟨G₄, p77, p70, rfl, u77, u70, hz⟩ hl B hDl hCn hDC hne F₇ N₇
    refine ⟨_, F₇.ns, fun h₅ hs₅ => ?_⟩
    have hm : ∀ p ∈ ([(156, o156)] : List (Addr × Obj)), p.1 ∉ [L + 1, L + 1 + 1 + 1, lh, lm, 77, 70] := by
      intro p hp
      rw [List.mem_singleton.mp hp]
      intro hb
      simp only [List.mem_cons, List.not_mem_nil, or_false] at hb
      rcases hb with hb | hb | hb | hb | hb | hb
      · exact absurd hb (Nat.ne_of_lt (Nat.lt_succ_of_lt h156))
      · exact absurd hb (Nat.ne_of_lt (Nat.lt_succ_of_lt (Nat.lt_succ_of_lt (Nat.lt_succ_of_lt h156))))
      · exact tab_ne N₅ (P := 156) (o := o156) (by k_mem) t156 (p := (lh, heardO W tw nh)) (by k_mem) (fun q e => by cases e) hb.symm
      · exact tab_ne N₅ (P := 156) (o := o156) (by k_mem) t156 (p := (lm, marksO ms mt nm)) (by k_mem) (fun q e => by cases e) hb.symm
      · exact absurd hb (by decide : ¬ (156 : Nat) = 77)
      · exact absurd hb (by decide : ¬ (156 : Nat) = 70)
    obtain ⟨F₈, Nm, NC, _⟩ := comp_out (news := [(156, o156)]) F₅ (news_sub N₅ (by
      intro p hp
      rw [List.mem_singleton.mp hp]
      k_mem)) B hCn hLas hgas F₇ N₇ hs₅ hm
    have N₈ : News g L h₅ ((Dl, listOf ys.toArray nn) :: (77, p77) :: (70, p70) :: (156, o156) :: []) := fun p hp => by
      rcases List.mem_cons.mp hp with rfl | hp
      · exact NC _ (.head _)
      rcases List.mem_cons.mp hp with rfl | hp
      · exact NC _ (by k_mem)
      rcases List.mem_cons.mp hp with rfl | hp
      · exact NC _ (by k_mem)
      · exact Nm _ hp
    clear F₅ N₅ F₇ N₇ NC Nm
    k_steps
    all_goals (with_reducible rename News _ _ _ _ => N₉)
    all_goals (with_reducible rename Fr _ _ _ _ => F₉)
    all_goals refine ⟨end_of ?_ ?_, G₄, rfl, F₉.keep, ⟨p77, N₉.get (by k_mem), u77⟩, ⟨p70, N₉.get (by k_mem), u70⟩, ⟨o156, N₉.get (by k_mem), t156⟩⟩
    all_goals (unfold WinOf; (try rw [if_pos rfl]); (try rw [if_neg (by decide)]); (first | exact if_pos (by assumption) | exact if_neg (by assumption) | exact if_neg (by omega) | exact if_pos (by omega)))
end Mine
end

section
open PySem PySem.W PyProof.Rows PySem.Calls
local macro_rules | `(tactic| walk_at "exec Assign Name ListComp") => `(tactic| refine hold ?_)
local macro_rules | `(tactic| walk_at "exec Assign") => `(tactic| ((with_reducible show wpAny _ _ (exec (.Assign [_] (.ListComp _ _ _ _) _) _) _ _ _); refine hold ?_))

section
open PySem PySem.W PyProof.Rows PySem.Calls
namespace Mine
local macro_rules | `(tactic| walk_at "no such key 0") => `(tactic| fail)
/-- what stands behind the first if -/
noncomputable def afterIf (l : List Stmt) : List Stmt := behind 3 l
theorem WinTab.empty {prog : Program} {w : World} {o : Obj} {KK : List (Addr × Obj)} (h : o.IsDictOf (intKind prog w) []) : WinTab prog w o [] KK := by
  obtain ⟨es, ep, hc, hdat, _, hp, _⟩ := h
  have he : es.toList = [] := List.length_eq_zero_iff.mp hp.length
  exact ⟨hc, ⟨es, ep, hdat, he⟩, List.nodup_nil, fun _ hx => nomatch hx⟩
theorem value_at {ws : Nat → List Nat} {ms : Nat → Nat} {W : Nat → Str} (hst : ∀ j, j < 3 → StalkW (ms j) (ws j)) (hw : ∀ j, (W j).cps.toList = ws j) {j : Nat} (hj : j < 3) : (countsOf (ws j) (ms j)).getD (W j).length 0 = valueOf (ms j) (ws j) := by
  have l : (W j).length = (ws j).length := by rw [← hw j]; show (W j).cps.size = _; simp
  rw [l, (hst j hj).counts_at (Nat.le_refl _), List.take_length]
theorem law_mid2 : ∀ {w : World} {dp u : Nat} {fr : Option (List Env)} {gd : Option (List Code)} {g : Heap} {mg mb : Str → Option Value} {p : Program} {loose : List Str} {mean : ExcName → Option Value} {L : Addr}
    {name qual : Str} {params : Arguments} {body : List Stmt} {scope : Scope} {dV kV doc pm cdv ct oc : Value} {an od : Option Addr} {osl : Array (Option Value)}
    (X' : (hd.heap_1 w.params).In g) (T' : Top p loose mean mg mb g) (hroom : dp < 310) (hu : u < 1000)
    (ho : (hd.heap_1 w.params).lookup 178 = some ⟨oc, od, .func (fnOf name qual params body scope dV kV doc pm an cdv ct), osl⟩)
    (cl a0 a1 a2 : Addr) (ncl n0 n1 n2 : Nat) (v0 v1 v2 : List Value) (lh lm : Addr) (om oh o77 o70 o156 : Obj) (nh nm : Nat) (W : Nat → Str) (tw mt : Nat → Tok) (ms : Nat → Nat) (ws : Nat → List Nat)
    (i0 : IntsAre v0 (countsOf (ws 0) (ms 0))) (i1 : IntsAre v1 (countsOf (ws 1) (ms 1))) (i2 : IntsAre v2 (countsOf (ws 2) (ms 2)))
    (dm : om.data = .cell (some (.ref lm))) (dh : oh.data = .cell (some (.ref lh)))
    (hw : ∀ j, (W j).cps.toList = ws j) (hst : ∀ j, j < 3 → StalkW (ms j) (ws j)) (hmt0 : ∀ j, j < 3 → mt j ≠ 0)
    (t77 : TabIs o77) (t70 : TabIs o70) (t156 : TabIs o156) (g77 : CodeKnown g 81 77) (g70 : CodeKnown g 74 70) (h77 : @LT.lt Nat _ 77 L) (h70 : @LT.lt Nat _ 70 L) (h156 : @LT.lt Nat _ 156 L) (hlhL : @Ne Nat lh lm)
    (s : Shared) (G : AllBare s.gens) (hmt : ∀ j, j < 3 → @LT.lt Nat _ (mt j) s.toks) (m : Str → Option Value) (m1 : m (Str.ofString "counts") = some (.ref cl))
    (F : Fr g L s.heap m) (N : News g L s.heap ((cl, ref3O a0 a1 a2 ncl) :: (a0, listOf v0.toArray n0) :: (a1, listOf v1.toArray n1) :: (a2, listOf v2.toArray n2) :: (L + 1, om) :: (L + 1 + 1 + 1, oh) :: (lh, heardO W tw nh) :: (lm, marksO ms mt nm) :: (77, o77) :: (70, o70) :: (156, o156) :: [])),
    wpAny (model PySem.Challenge.rw_re0035_01.row.prog w) (Around.deeper ⟨none, dp, fr, gd, u⟩ (envOfC qual scope L 178 cdv)) (execs (afterIf (afterFor body)).tail (envOfC qual scope L 178 cdv))
      (LawPost g s.os) (fun _ _ => False) s := by
  k_fill
  intro w dp u fr gd g mg mb p loose mean L name qual params body scope dV kV doc pm cdv ct oc an od osl X' T' hroom hu ho cl a0 a1 a2 ncl n0 n1 n2 v0 v1 v2 lh lm om oh o77 o70 o156 nh nm W tw mt ms ws i0 i1 i2 dm dh hw hst hmt0 t77 t70 t156 g77 g70 h77 h70 h156 hlhL s G hmt m m1 F N
  have ho₂ := ho
  obtain ⟨q1, q2, q3, q4⟩ := fn_inj ho (by k_is)
  subst q1 q2 q3 q4
  clear ho
  conv in (execs _ _) => arg 1; whnf
  (with_reducible refine wpAny_execs_cons ?_); (try dsimp only); refine wpAny_with_toks (Nat.le_refl _) ?_
  refine listComp_assign (by rfl) rfl rfl (by decide) ?_
  k_steps
  unfold Hold
  (with_reducible rename News _ _ _ _ => N₁)
  (with_reducible rename Fr _ _ _ _ => F₁)
  have hx : ∀ j, j < 3 → (W j).length ≤ 3 := fun j hj => by
    have := (hst j hj).len
    rw [← hw j] at this
    exact this
  refine comp_list (as := []) (news₀ := []) (items := #[.str (W 0) (tw 0), .str (W 1) (tw 1), .str (W 2) (tw 2)])
    (fun i ys news gs => gs = s.gens ∧ news = [] ∧ IntsAre ys ([((W 0).length : Int), ((W 1).length : Int), ((W 2).length : Int)].take i)) rfl (N₁.isList (by k_mem)) (by show 3 ≤ 1000; decide) (fun q => nomatch q) (fun _ hb => nomatch hb) (fun _ hp => nomatch hp) ⟨rfl, rfl, .nil⟩ (by decide) rfl rfl ?_ ?_
  · rintro i v ys D C I oI m₄ news₄ gs h₄ tk₄ nn g₂ hi ⟨rfl, rfl, hz⟩ B hD hCn hne hl F₆ N₆
    have up := B.from F₁ (fun _ hb => nomatch hb)
    have X2 := X'.keeps up
    have T2 := T'.keeps up
    clear X' T' F₁ N₁
    have hi3 : i < 3 := by have := (Array.getElem?_eq_some_iff.mp hi).1; simpa using this
    have hx0 := hx 0 (by decide)
    have hx1 := hx 1 (by decide)
    have hx2 := hx 2 (by decide)
    rcases lt3 (i := i) (by omega) with rfl | rfl | rfl
    · obtain rfl : v = .str (W 0) (tw 0) := by simpa using hi.symm
      k_steps
      (with_reducible rename Fr _ _ _ _ => F₇)
      exact ⟨_, [], _, _, _, rfl, F₇, N₆, hne, rfl, rfl, hz.append (.cons _ _ .nil)⟩
    · obtain rfl : v = .str (W 1) (tw 1) := by simpa using hi.symm
      k_steps
      (with_reducible rename Fr _ _ _ _ => F₇)
      exact ⟨_, [], _, _, _, rfl, F₇, N₆, hne, rfl, rfl, hz.append (.cons _ _ .nil)⟩
    · obtain rfl : v = .str (W 2) (tw 2) := by simpa using hi.symm
      k_steps
      (with_reducible rename Fr _ _ _ _ => F₇)
      exact ⟨_, [], _, _, _, rfl, F₇, N₆, hne, rfl, rfl, hz.append (.cons _ _ .nil)⟩
  · rintro D C ys m₄ news₄ gs h₄ tk₄ nn g₂ ⟨rfl, rfl, hz⟩ hl B hD hCn hDC hne F₆ N₆
    obtain ⟨oC, F₇, N₇, hCs, hnC, hLC, hgC, hkk⟩ := comp_use F₁ N₁ B hCn (fun q => nomatch q) (fun _ hb => nomatch hb) F₆ N₆ (fun _ _ q => nomatch q)
    refine compPost_use ?_
    k_steps
    (with_reducible rename News _ _ _ _ => N₈)
    (with_reducible rename Fr _ _ _ _ => F₈)
    refine ⟨_, hCs _ (N₈.get (.head _)), fun h₉ hs₉ => ?_⟩
    obtain ⟨F₉, N₉⟩ := use_out F₈ (fun p hp => N₈ p (.tail _ hp)) hnC hLC hgC hs₉
    intro htk₉
    clear N₈ F₈
    rw [List.cons_append, List.nil_append] at N₉
    replace hz : IntsAre ys [((W 0).length : Int), ((W 1).length : Int), ((W 2).length : Int)] := hz
    (with_reducible refine wpAny_execs_cons ?_); (try dsimp only); refine wpAny_with_toks (Nat.le_refl _) ?_
    k_steps
    unfold Hold
    (with_reducible rename News _ _ _ _ => N₁₀)
    (with_reducible rename Fr _ _ _ _ => F₁₀)
    rename_i d _ o _ _ _ hI _ hlt _ hle
    obtain ⟨b1, b2, b3, b4, b5, b6, b7, b8, b9, b10, b11, b12⟩ := hlt
    dsimp only
    (with_reducible refine wpAny_execs_cons ?_); (try dsimp only); refine wpAny_with_toks (Nat.le_refl _) ?_
    have hlen : ∀ j, (countsOf (ws j) (ms j)).length = (W j).length + 1 := fun j => by
      rw [counts_length, ← hw j]; show _ = (W j).cps.size + 1; simp
    refine wpAny_mono (a_loop X' T' (by omega) (by omega) ho₂ lh d oh o nh W tw [(D, listOf ys.toArray nn), (cl, ref3O a0 a1 a2 ncl), (a0, listOf v0.toArray n0), (a1, listOf v1.toArray n1), (a2, listOf v2.toArray n2), (L + 1, om), (lm, marksO ms mt nm), (77, o77), (70, o70), (156, o156)] [] (fun p hp => nomatch hp) [] dh (WinTab.empty (by assumption)) (by assumption) (Nat.zero_le _) (Nat.ne_of_lt b7) (Nat.ne_of_lt b8) ?_ cl a0 a1 a2 D ncl n0 n1 n2 nn v0 v1 v2 ys _ _ _ (by k_mem) (by k_mem) (by k_mem) (by k_mem) (by k_mem) i0 i1 i2 hz hx (hlen 0) (hlen 1) (hlen 2) _ (win_law hst hw) (fun _ _ _ _ => False) (fun _ _ _ _ h => h.elim) s.gens s.drawn s.os _ _ _ ?_ ?_ ?_ F₁₀ (news_sub N₁₀ ?_)) ?_ fun _ _ y _ => y
    · refine List.forall_mem_cons.mpr ⟨Nat.ne_of_lt b1, List.forall_mem_cons.mpr ⟨Nat.ne_of_lt b2, List.forall_mem_cons.mpr ⟨Nat.ne_of_lt b3, List.forall_mem_cons.mpr ⟨Nat.ne_of_lt b4, List.forall_mem_cons.mpr ⟨Nat.ne_of_lt b5, List.forall_mem_cons.mpr ⟨Nat.ne_of_lt b6, List.forall_mem_cons.mpr ⟨Nat.ne_of_lt b9, List.forall_mem_cons.mpr ⟨Nat.ne_of_lt b10, List.forall_mem_cons.mpr ⟨Nat.ne_of_lt b11, List.forall_mem_cons.mpr ⟨Nat.ne_of_lt b12, List.forall_mem_nil _⟩⟩⟩⟩⟩⟩⟩⟩⟩⟩
    · exact (if_neg (by decide)).trans ((if_neg (by decide)).trans m1)
    · exact if_pos rfl
    · exact (if_neg (by decide)).trans (if_pos rfl)
    · walk_at "my sub"
    · rintro f' s' ⟨rfl, m₃, h₃, tk₃, oD₃, xs₃, K₃, rfl, F₃, N₃, Wn₃, hK₃, hlen₃, hd₃, g₃⟩ hle₃
      have hle₃' : s.toks ≤ tk₃ := by
        refine Nat.le_trans htk₉ (Nat.le_trans ?_ hle₃)
        exact hle
      refine wpAny_mono (law_end X' T' hroom hu ho₂ lh lm d D om oh oD₃ o77 o70 o156 nh nm nn W tw mt ms ws ys (K₃ ++ []) (K₃ ++ []) (fun p hp => hp) xs₃ dm dh Wn₃ hz hw hst hmt0 ?_ t77 t70 t156 g77 g70 h77 h70 h156 hlhL ⟨h₃, s.gens, s.drawn, tk₃, s.os⟩ G (fun j hj => Nat.lt_of_lt_of_le (hmt j hj) hle₃') m₃ ((g₃ _ (by decide)).trans ((if_neg (by decide)).trans (if_pos rfl))) ((g₃ _ (by decide)).trans (if_pos rfl)) F₃ (news_sub N₃ ?_)) (fun _ _ y => y) fun _ _ y => y
      · intro mv hmv
        obtain ⟨T, hT⟩ := hd₃ (W 0).length (W 1).length (W 2).length mv (.inr ⟨Nat.lt_succ_self _, Nat.lt_succ_self _, Nat.lt_succ_self _, hmv⟩)
        refine ⟨T, hT.trans ?_⟩
        unfold winF
        rw [value_at hst hw (j := 0) (by decide), value_at hst hw (j := 1) (by decide), value_at hst hw (j := 2) (by decide), totV3]
      · walk_at "my sub"
end Mine
end

section
open PySem PySem.W PyProof.Rows PySem.Calls
namespace Mine
inductive CountsJ (gs₀ : Array GenState) (R₄ : List (Addr × Obj)) (ms : Nat → Nat) (ws : Nat → List Nat) (i : Nat) (ys : List Value) (news : List (Addr × Obj)) (gs : Array GenState) : Prop
  | mk : (gs = gs₀) → ∀ cs : List (Addr × Obj), (news = cs ++ R₄) → ((∀ j, j < i → ∃ a vs n, ys[j]? = some (.ref a) ∧ (a, listOf vs.toArray n) ∈ cs ∧ IntsAre vs (countsOf (ws j) (ms j)))) → (ys.length = i) → CountsJ gs₀ R₄ ms ws i ys news gs
theorem law_mid : ∀ {w : World} {dp u : Nat} {fr : Option (List Env)} {gd : Option (List Code)} {g : Heap} {mg mb : Str → Option Value} {p : Program} {loose : List Str} {mean : ExcName → Option Value} {L : Addr}
    {name qual : Str} {params : Arguments} {body : List Stmt} {scope : Scope} {dV kV doc pm cdv ct oc : Value} {an od : Option Addr} {osl : Array (Option Value)}
    (X' : (hd.heap_1 w.params).In g) (T' : Top p loose mean mg mb g) (hroom : dp < 310) (hu : u < 1000)
    (ho : (hd.heap_1 w.params).lookup 178 = some ⟨oc, od, .func (fnOf name qual params body scope dV kV doc pm an cdv ct), osl⟩)
    (lh lm : Addr) (om oh o77 o70 o156 : Obj) (nh nm : Nat) (W : Nat → Str) (tw mt : Nat → Tok) (ms : Nat → Nat) (ws : Nat → List Nat)
    (dm : om.data = .cell (some (.ref lm))) (dh : oh.data = .cell (some (.ref lh)))
    (hw : ∀ j, (W j).cps.toList = ws j) (hst : ∀ j, j < 3 → StalkW (ms j) (ws j)) (hmt0 : ∀ j, j < 3 → mt j ≠ 0)
    (t77 : TabIs o77) (t70 : TabIs o70) (t156 : TabIs o156) (g77 : CodeKnown g 81 77) (g70 : CodeKnown g 74 70) (h77 : @LT.lt Nat _ 77 L) (h70 : @LT.lt Nat _ 70 L) (h156 : @LT.lt Nat _ 156 L) (hlhL : @Ne Nat lh lm)
    (s : Shared) (G : AllBare s.gens) (hmt : ∀ j, j < 3 → @LT.lt Nat _ (mt j) s.toks) (m : Str → Option Value)
    (F : Fr g L s.heap m) (N : News g L s.heap ((L + 1, om) :: (L + 1 + 1 + 1, oh) :: (lh, heardO W tw nh) :: (lm, marksO ms mt nm) :: (77, o77) :: (70, o70) :: (156, o156) :: [])),
    wpAny (model PySem.Challenge.rw_re0035_01.row.prog w) (Around.deeper ⟨none, dp, fr, gd, u⟩ (envOfC qual scope L 178 cdv)) (execs (afterIf (afterFor body)) (envOfC qual scope L 178 cdv))
      (LawPost g s.os) (fun _ _ => False) s := by
  k_fill
  intro w dp u fr gd g mg mb p loose mean L name qual params body scope dV kV doc pm cdv ct oc an od osl X' T' hroom hu ho lh lm om oh o77 o70 o156 nh nm W tw mt ms ws dm dh hw hst hmt0 t77 t70 t156 g77 g70 h77 h70 h156 hlhL s G hmt m F N
  have ho₂ := ho
  obtain ⟨q1, q2, q3, q4⟩ := fn_inj ho (by k_is)
  subst q1 q2 q3 q4
  clear ho
  conv in (execs _ _) => arg 1; whnf
  (with_reducible refine wpAny_execs_cons ?_); (try dsimp only); refine wpAny_with_toks (Nat.le_refl _) ?_
  refine listComp_assign (by rfl) rfl rfl (by decide) ?_
  k_steps
  unfold Hold
  (with_reducible rename IsRange _ _ _ _ _ _ _ _ => hR)
  (with_reducible rename News _ _ _ _ => N₁)
  (with_reducible rename Fr _ _ _ _ => F₁)
  have N₂ : News g L _ ((L + 1, om) :: (L + 1 + 1 + 1, oh) :: (lh, heardO W tw nh) :: (lm, marksO ms mt nm) :: [] : List (Addr × Obj)) := news_sub N₁ (by
    walk_at "my sub")
  have CF := comp_facts N₂
  have hgas : ∀ b ∈ [L + 1, L + 1 + 1 + 1, lh, lm], g.get? b = none := CF.new
  have hLas : L ∉ [L + 1, L + 1 + 1 + 1, lh, lm] := CF.loc
  have apart : ∀ p ∈ ([(77, o77), (70, o70), (156, o156)] : List (Addr × Obj)), p.1 ∉ [L + 1, L + 1 + 1 + 1, lh, lm] := by
    have one : ∀ (P : Addr) (o : Obj), (P, o) ∈ ([(77, o77), (70, o70), (156, o156)] : List (Addr × Obj)) → @LT.lt Nat _ P L → TabIs o → P ∉ [L + 1, L + 1 + 1 + 1, lh, lm] := by
      intro P o hm hP ho hb
      have hm' : (P, o) ∈ ((L + 1, om) :: (L + 1 + 1 + 1, oh) :: (lh, heardO W tw nh) :: (lm, marksO ms mt nm) :: [(77, o77), (70, o70), (156, o156)] : List (Addr × Obj)) := .tail _ (.tail _ (.tail _ (.tail _ hm)))
      simp only [List.mem_cons, List.not_mem_nil, or_false] at hb
      rcases hb with hb | hb | hb | hb
      · exact absurd hb (Nat.ne_of_lt (Nat.lt_succ_of_lt hP))
      · exact absurd hb (Nat.ne_of_lt (Nat.lt_succ_of_lt (Nat.lt_succ_of_lt (Nat.lt_succ_of_lt hP))))
      · exact tab_ne N₁ hm' ho (p := (lh, heardO W tw nh)) (.tail _ (.tail _ (.head _))) (fun q e => by cases e) hb.symm
      · exact tab_ne N₁ hm' ho (p := (lm, marksO ms mt nm)) (.tail _ (.tail _ (.tail _ (.head _)))) (fun q e => by cases e) hb.symm
    exact List.forall_mem_cons.mpr ⟨one 77 o77 (.head _) h77 t77, List.forall_mem_cons.mpr ⟨one 70 o70 (.tail _ (.head _)) h70 t70, List.forall_mem_cons.mpr ⟨one 156 o156 (.tail _ (.tail _ (.head _))) h156 t156, List.forall_mem_nil _⟩⟩⟩
  refine comp_range (as := [L + 1, L + 1 + 1 + 1, lh, lm]) (news₀ := ((L + 1, om) :: (L + 1 + 1 + 1, oh) :: (lh, heardO W tw nh) :: (lm, marksO ms mt nm) :: [] : List (Addr × Obj)))
    (CountsJ (s.gens) (((L + 1, om) :: (L + 1 + 1 + 1, oh) :: (lh, heardO W tw nh) :: (lm, marksO ms mt nm) :: [] : List (Addr × Obj))) ms ws) rfl hR (by decide) ?_ ?_ ⟨rfl, [], rfl, (fun j hj => absurd hj (Nat.not_lt_zero _)), rfl⟩ (by decide) rfl rfl ?_ ?_
  · exact CF.has
  · exact CF.old
  · rintro i t ys D C I oI m₄ news₄ gs h₄ tk₄ nn g₂ hi ⟨rfl, cs, rfl, hcs, hyl⟩ B hD hCn hne hl F₆ N₆
    have up := B.from F₁ hgas
    have X2 := X'.keeps up
    have T2 := T'.keeps up
    have N₆' : News g₂ C h₄ ((L + 1, om) :: (L + 1 + 1 + 1, oh) :: (lh, heardO W tw nh) :: (lm, marksO ms mt nm) :: (D, listOf ys.toArray nn) :: (I, oI) :: cs) := news_sub N₆ (by
      walk_at "my sub")
    clear X' T' F₁ N₁ N₂ N₆
    have hi' : @LT.lt Nat _ i 3 := hi
    have fin : ∀ (q : Addr) (vs : List Value) (n : Nat) (h₅ : Heap) (tk₅ : Nat), IntsAre vs (countsOf (ws i) (ms i)) → h₄.get? q = none → h₅.get? q = some (listOf vs.toArray n) → Fr g₂ C h₅ (fun y => if y = Str.ofString "k" then some (.int (i : Nat) t) else m₄ y) → (∀ b o, h₄.get? b = some o → h₅.get? b = some o) →
        EltEnd g₂ C D I (listOf ys.toArray nn) oI s.drawn s.os (fun y news' gs' => CountsJ s.gens ((L + 1, om) :: (L + 1 + 1 + 1, oh) :: (lh, heardO W tw nh) :: (lm, marksO ms mt nm) :: [] : List (Addr × Obj)) ms ws (i + 1) (ys ++ [y]) news' gs') (.ref q) ⟨h₅, s.gens, s.drawn, tk₅, s.os⟩ := by
      intro q vs n h₅ tk₅ hv hq0 hq F₅ hk₅
      have nq := new_ne N₆' hq0
      have N₅ := news_add F₆ hq0 hq (N₆'.grown hk₅)
      refine ⟨_, (q, listOf vs.toArray n) :: cs ++ ((L + 1, om) :: (L + 1 + 1 + 1, oh) :: (lh, heardO W tw nh) :: (lm, marksO ms mt nm) :: [] : List (Addr × Obj)), s.gens, h₅, tk₅, rfl, F₅, news_sub N₅ ?_, ?_, rfl, (q, listOf vs.toArray n) :: cs, rfl, ?_, by rw [List.length_append, List.length_singleton, hyl]⟩
      · walk_at "my sub"
      · intro p hp
        rw [List.cons_append] at hp
        rcases List.mem_cons.mp hp with rfl | hp
        · exact ⟨fun e => nq (D, listOf ys.toArray nn) (by k_mem) e.symm, fun e => nq (I, oI) (by k_mem) e.symm⟩
        · exact hne p hp
      · intro j hj
        by_cases e : j < i
        · obtain ⟨a', vs', n', z1, z2, z3⟩ := hcs j e
          exact ⟨a', vs', n', by rw [List.getElem?_append_left (by omega)]; exact z1, .tail _ z2, z3⟩
        · have e : j = i := by omega
          subst e
          exact ⟨q, vs, n, by rw [List.getElem?_append_right (by omega), hyl]; simp, .head _, hv⟩
    have hx : ∀ j, j < 3 → (W j).length ≤ 3 := fun j hj => by
      have := (hst j hj).len
      rw [← hw j] at this
      exact this
    rcases lt3 (i := i) (by omega) with rfl | rfl | rfl
    · k_steps
      unfold Hold
      (with_reducible rename Fr _ _ _ _ => F₇)
      show wpAny _ _ (call (.ref 168) [.str (W 0) _, .str ⟨#[ms 0]⟩ _]) _ _ _
      refine counts_c X2 T2 F₇.keep (by dsimp only; omega) (W 0) (ms 0) _ _ (hx 0 (by decide)) ?_
      intro q vs n h₅ tk₅ hq0 hq hqi hk₅
      exact fin q vs n h₅ tk₅ (by rw [← hw 0]; exact hqi) hq0 hq (F₇.keeps hk₅) hk₅
    · k_steps
      unfold Hold
      (with_reducible rename Fr _ _ _ _ => F₇)
      show wpAny _ _ (call (.ref 168) [.str (W 1) _, .str ⟨#[ms 1]⟩ _]) _ _ _
      refine counts_c X2 T2 F₇.keep (by dsimp only; omega) (W 1) (ms 1) _ _ (hx 1 (by decide)) ?_
      intro q vs n h₅ tk₅ hq0 hq hqi hk₅
      exact fin q vs n h₅ tk₅ (by rw [← hw 1]; exact hqi) hq0 hq (F₇.keeps hk₅) hk₅
    · k_steps
      unfold Hold
      (with_reducible rename Fr _ _ _ _ => F₇)
      show wpAny _ _ (call (.ref 168) [.str (W 2) _, .str ⟨#[ms 2]⟩ _]) _ _ _
      refine counts_c X2 T2 F₇.keep (by dsimp only; omega) (W 2) (ms 2) _ _ (hx 2 (by decide)) ?_
      intro q vs n h₅ tk₅ hq0 hq hqi hk₅
      exact fin q vs n h₅ tk₅ (by rw [← hw 2]; exact hqi) hq0 hq (F₇.keeps hk₅) hk₅
  · rintro D C ys m₄ news₄ gs h₄ tk₄ nn g₂ ⟨rfl, cs, rfl, hcs, hyl⟩ hl B hD hCn hDC hne F₆ N₆
    obtain ⟨oC, F₇, N₇, hCs, hnC, hLC, hgC, hkk⟩ := comp_use F₁ (news := [(77, o77), (70, o70), (156, o156)]) (news_sub N₁ (by
      walk_at "my sub")) B hCn hLas hgas F₆ N₆ apart
    refine compPost_use ?_
    k_steps
    (with_reducible rename News _ _ _ _ => N₈)
    (with_reducible rename Fr _ _ _ _ => F₈)
    refine ⟨_, hCs _ (N₈.get (.head _)), fun h₉ hs₉ => ?_⟩
    obtain ⟨F₉, N₉⟩ := use_out F₈ (fun p hp => N₈ p (.tail _ hp)) hnC hLC hgC hs₉
    intro htk₉
    obtain ⟨a0, v0, n0, x0, y0, z0⟩ := hcs 0 (by decide)
    obtain ⟨a1, v1, n1, x1, y1, z1⟩ := hcs 1 (by decide)
    obtain ⟨a2, v2, n2, x2, y2, z2⟩ := hcs 2 (by decide)
    obtain rfl : ys = [.ref a0, .ref a1, .ref a2] := by
      obtain ⟨u0, u1, u2, rfl⟩ := list3 (show ys.length = 3 from hl)
      simp at x0 x1 x2
      rw [x0, x1, x2]
    have N₁₀ : News g L h₉ ((D, listOf #[.ref a0, .ref a1, .ref a2] nn) :: (a0, listOf v0.toArray n0) :: (a1, listOf v1.toArray n1) :: (a2, listOf v2.toArray n2) :: (L + 1, om) :: (L + 1 + 1 + 1, oh) :: (lh, heardO W tw nh) :: (lm, marksO ms mt nm) :: (77, o77) :: (70, o70) :: (156, o156) :: []) := news_sub N₉ (by
      intro p hp
      simp only [List.mem_cons, List.not_mem_nil, or_false] at hp
      simp only [List.mem_append, List.mem_cons, List.not_mem_nil, or_false, List.cons_append]
      rcases hp with h | h | h | h | h | h | h | h | h | h | h <;> (first | (simp [h]; done) | (rw [h]; exact .inr (.inl (.inl (by assumption)))))
      )
    exact law_mid2 X' T' hroom hu ho₂ D a0 a1 a2 nn n0 n1 n2 v0 v1 v2 lh lm om oh o77 o70 o156 nh nm W tw mt ms ws z0 z1 z2 dm dh hw hst hmt0 t77 t70 t156 g77 g70 h77 h70 h156 hlhL _ G (fun j hj => Nat.lt_of_lt_of_le (hmt j hj) htk₉) _ (if_pos rfl) F₉ N₁₀
end Mine
end

end

section
open PySem PySem.W PyProof.Rows PySem.Calls PyProof.V
namespace Mine
local macro_rules | `(tactic| walk_at "call ref nil") => `(tactic| refine hold ?_)
theorem strs_lay : ∀ ns : List Str, (∀ x ∈ ns, PyData.strOk x = true) → PyData.canLayAll0 (ns.map PyData.str) = true
  | [], _ => rfl
  | x :: r, h => by simp [PyData.canLayAll0, PyData.canLay0, h x (.head _), strs_lay r fun y hy => h y (.tail _ hy)]
theorem strs_depth : ∀ ns : List Str, PyData.depthAll (ns.map PyData.str) = 0
  | [] => rfl
  | _ :: r => by simp [PyData.depthAll, PyData.depth, strs_depth r]
theorem strs_shaped (ns : List Str) (h : ∀ x ∈ ns, PyData.strOk x = true) : SeqAt.shaped (.list (ns.map PyData.str)) = true := by
  simp [SeqAt.shaped, PyData.canLay0, PyData.depth, strs_lay ns h, strs_depth]
theorem strs_sameAll : ∀ ns : List Str, PySem.Spec.sameAll (ns.map PyData.str) (ns.map PyData.str) = true
  | [] => by simp [PySem.Spec.sameAll]
  | a :: r => by simp only [List.map_cons, PySem.Spec.sameAll, PySem.Spec.same, strs_sameAll r]; simp
theorem strs_same (ns : List Str) : PySem.Spec.same (.list (ns.map PyData.str)) (.list (ns.map PyData.str)) = true := by
  simp only [PySem.Spec.same]; exact strs_sameAll ns
theorem strs_carried : ∀ {vs : List Value} {ns : List Str}, StrsAre vs ns → CarriedAll vs (ns.map PyData.str)
  | _, _, .nil => .nil
  | _, _, .cons _ t r => .cons (.str _ t) (strs_carried r)
theorem ne_strs {prog : Program} {w : World} {A : Around} {E : Value → Shared → Prop} {s : Shared} {a b : Addr} {xs ys : List Value} {ns : List Str} {Q : Value → Shared → Prop} (ha : s.heap.IsList a xs.toArray) (hb : s.heap.IsList b ys.toArray) (hi : StrsAre xs ns) (hj : StrsAre ys ns) (hns : ∀ x ∈ ns, PyData.strOk x = true) (hu : A.units + 64 < cLine) (h : Q (.bool false) s) :
    wpAny (model prog w) A (compareOp .NotEq (.ref a) (.ref b)) Q E s :=
  ne_dataH_same (reads_newData ha (strs_carried hi)) (reads_newData hb (strs_carried hj)) (strs_shaped _ hns) (strs_shaped _ hns) hu (SeqAt.noMix_of_shape (.list .str) rfl _ _ (list_map_has fun _ => rfl) (list_map_has fun _ => rfl)) (by rw [strs_same]; exact h)
theorem words_ok : ((List.range 150).all fun n => PyData.strOk ⟨(wordN n).toArray⟩) = true := by decide +kernel
theorem word_ok {n : Nat} (hn : n < 150) : PyData.strOk ⟨(wordN n).toArray⟩ = true := List.all_eq_true.mp words_ok n (List.mem_range.mpr hn)
theorem store_cell {M : Model} {A : Around} {E : Value → Shared → Prop} {s : Shared} {g : Heap} {L c : Addr} {m : Str → Option Value} {env : Env} {x : Str} {o : Obj} {v₀ : Option Value} {v : Value} {pre post : List (Addr × Obj)} {Q : Unit → Shared → Prop} (F : Fr g L s.heap m) (N : News g L s.heap (pre ++ (c, o) :: post)) (hd : o.data = .cell v₀) (hne : ∀ p ∈ pre ++ post, @Ne Nat p.1 c)
    (h : ∀ h' o', Fr g L h' m → News g L h' (pre ++ (c, o') :: post) → o'.data = .cell (some v) → Q () { s with heap := h' })
    (hk : env.scope.kind = .function := by rfl) (hl : env.kindOf x = some .cell := by rfl) (hc : env.cells.lookup x = some c := by rfl) : wpAny M A (storeName env x v) Q E s := by
  have hmem := N (c, o) (List.mem_append_right _ (.head _))
  refine wpAny_storeName_cell hk hl hc ⟨o, hmem.1, hd⟩ fun h' hv hs => ?_
  obtain ⟨o', ho', hd'⟩ := hv
  refine h h' o' ⟨F.ns.sameBut hs (Ne.symm hmem.2.1), fun b ob e => (hs.2 b (fun q => ?_)).trans (F.keep b ob e), F.above⟩ (fun p hp => ?_) hd'
  · rw [q, hmem.2.2] at e; cases e
  · rcases List.mem_append.mp hp with hp | hp
    · have q := N p (List.mem_append_left _ hp)
      exact ⟨(hs.2 _ (hne p (List.mem_append_left _ hp))).trans q.1, q.2⟩
    rcases List.mem_cons.mp hp with rfl | hp
    · exact ⟨ho', hmem.2⟩
    · have q := N p (List.mem_append_right _ (.tail _ hp))
      exact ⟨(hs.2 _ (hne p (List.mem_append_right _ hp))).trans q.1, q.2⟩
@[reducible] noncomputable def wordsO (nn : Nat → Nat) (tw : Nat → Tok) (n : Nat) : Obj := listOf #[.str ⟨(wordN (nn 0)).toArray⟩ (tw 0), .str ⟨(wordN (nn 1)).toArray⟩ (tw 1), .str ⟨(wordN (nn 2)).toArray⟩ (tw 2)] n
@[reducible] noncomputable def markedO (nn : Nat → Nat) (mt : Nat → Tok) (n : Nat) : Obj := listOf #[.str ⟨#[markN (nn 0)]⟩ (mt 0), .str ⟨#[markN (nn 1)]⟩ (mt 1), .str ⟨#[markN (nn 2)]⟩ (mt 2)] n
theorem news_app {g h : Heap} {L : Addr} {A B : List (Addr × Obj)} (a : News g L h A) (b : News g L h B) : News g L h (A ++ B) := fun p hp => (List.mem_append.mp hp).elim (a p) (b p)
theorem lex_news {g h h₂ : Heap} {L : Addr} {m : Str → Option Value} {R A : List (Addr × Obj)} {o : Obj} (N : News g L h R) (F : Fr g L h m) (hn : ∀ p ∈ R, @Ne Nat p.1 156) (hk : ∀ b o, b ≠ 156 → h.get? b = some o → h₂.get? b = some o)
    (h156 : @LT.lt Nat _ 156 L) (hg : g.get? 156 = none) (hp : h₂.get? 156 = some o) (h0 : ∃ o', h.get? 156 = some o') (hall : ∀ p ∈ A, h₂.get? p.1 = some p.2 ∧ h.get? p.1 = none) :
    News g L h₂ ((R ++ [(156, o)]) ++ A) ∧ ∀ p ∈ A, ∀ q ∈ R ++ [(156, o)], @Ne Nat q.1 p.1 := by
  refine ⟨fun p hp' => ?_, fun p hp' q hq e => ?_⟩
  · rcases List.mem_append.mp hp' with hp' | hp'
    · rcases List.mem_append.mp hp' with hp' | hp'
      · exact ⟨hk _ _ (hn p hp') (N p hp').1, (N p hp').2⟩
      · rw [List.mem_singleton.mp hp']
        exact ⟨hp, Nat.ne_of_lt h156, hg⟩
    · have q := (hall p hp').2
      refine ⟨(hall p hp').1, fun e => ?_, ?_⟩
      · have e : p.1 = L := e
        obtain ⟨_, _, _, e', _⟩ := F.ns
        rw [← e, q] at e'; cases e'
      · cases z : g.get? p.1 with
        | none => rfl
        | some o => rw [F.keep _ _ z] at q; cases q
  · have e : q.1 = p.1 := e
    have z := (hall p hp').2
    rcases List.mem_append.mp hq with hq | hq
    · have := (N q hq).1
      rw [e, z] at this; cases this
    · rw [List.mem_singleton.mp hq] at e
      obtain ⟨o', h0⟩ := h0
      rw [← e, h0] at z; cases z
inductive HearJ (gs₀ : Array GenState) (L : Addr) (oM' : Obj) (I : LexIds) (nn : Nat → Nat) (l1 : Int) (l2 : Int) (l3 : Int) (p1 : Nat) (p2 : Nat) (p3 : Nat) (i : Nat) (ys : List Value) (news : List (Addr × Obj)) (gs : Array GenState) : Prop
  | mk : (gs = gs₀) → ∀ tl' tp', (news = (L + 1 + 1, oM') :: I.all (if i = 0 then 1 else if i = 1 then l1 else if i = 2 then l2 else l3) tl' (if i = 0 then 0 else if i = 1 then p1 else if i = 2 then p2 else p3) tp') → (StrsAre ys ([⟨(wordN (nn 0)).toArray⟩, ⟨(wordN (nn 1)).toArray⟩, ⟨(wordN (nn 2)).toArray⟩].take i)) → HearJ gs₀ L oM' I nn l1 l2 l3 p1 p2 p3 i ys news gs
theorem law_hear : ∀ {w : World} {dp u : Nat} {fr : Option (List Env)} {gd : Option (List Code)} {g : Heap} {mg mb : Str → Option Value} {p : Program} {loose : List Str} {mean : ExcName → Option Value} {L : Addr}
    {name qual : Str} {params : Arguments} {body : List Stmt} {scope : Scope} {dV kV doc pm cdv ct oc : Value} {an od : Option Addr} {osl : Array (Option Value)}
    (X' : (hd.heap_1 w.params).In g) (T' : Top p loose mean mg mb g) (hroom : dp < 310) (hu : u < 1000)
    (ho : (hd.heap_1 w.params).lookup 178 = some ⟨oc, od, .func (fnOf name qual params body scope dV kV doc pm an cdv ct), osl⟩)
    (wd lm : Addr) (om oM oh o77 o70 : Obj) (nw nm : Nat) (nn : Nat → Nat) (tw mt : Nat → Tok) (tt : Tok)
    (dm : om.data = .cell (some (.ref lm))) (dM : oM.data = .cell none) (dh : oh.data = .cell none)
    (hnn : ∀ j, j < 3 → nn j < 150) (hmt0 : ∀ j, j < 3 → mt j ≠ 0)
    (t77 : TabIs o77) (t70 : TabIs o70) (g77 : CodeKnown g 81 77) (g70 : CodeKnown g 74 70) (C₀ : CodeHd g 160 156) (h77 : @LT.lt Nat _ 77 L) (h70 : @LT.lt Nat _ 70 L) (h156 : @LT.lt Nat _ 156 L)
    (s : Shared) (G : AllBare s.gens) (hmt : ∀ j, j < 3 → @LT.lt Nat _ (mt j) s.toks) (m : Str → Option Value)
    (m1 : m (Str.ofString "text") = some (.str ⟨(lineN (nn 0) ++ (lineN (nn 1) ++ lineN (nn 2))).toArray⟩ tt)) (m2 : m (Str.ofString "words") = some (.ref wd))
    (F : Fr g L s.heap m) (N : News g L s.heap ((L + 1, om) :: (L + 1 + 1, oM) :: (L + 1 + 1 + 1, oh) :: (wd, wordsO nn tw nw) :: (lm, markedO nn mt nm) :: (77, o77) :: (70, o70) :: (156, tabObj #[]) :: [])),
    wpAny (model PySem.Challenge.rw_re0035_01.row.prog w) (Around.deeper ⟨none, dp, fr, gd, u⟩ (envOfC qual scope L 178 cdv)) (execs (afterFor body) (envOfC qual scope L 178 cdv))
      (LawPost g s.os) (fun _ _ => False) s := by
  k_fill
  intro w dp u fr gd g mg mb p loose mean L name qual params body scope dV kV doc pm cdv ct oc an od osl X' T' hroom hu ho wd lm om oM oh o77 o70 nw nm nn tw mt tt dm dM dh hnn hmt0 t77 t70 g77 g70 C₀ h77 h70 h156 s G hmt m m1 m2 F N
  have ho₂ := ho
  obtain ⟨q1, q2, q3, q4⟩ := fn_inj ho (by k_is)
  subst q1 q2 q3 q4
  clear ho
  conv in (execs _ _) => arg 1; whnf
  (with_reducible refine wpAny_execs_cons ?_); (try dsimp only); refine wpAny_with_toks (Nat.le_refl _) ?_
  k_steps
  unfold Hold
  (with_reducible rename News _ _ _ _ => N₁)
  (with_reducible rename Fr _ _ _ _ => F₁)
  have hlex := text_lexes (hnn 0 (by decide)) (hnn 1 (by decide)) (hnn 2 (by decide)) (x := ⟨(lineN (nn 0) ++ (lineN (nn 1) ++ lineN (nn 2))).toArray⟩) (by simp)
  obtain ⟨hxl, p1, l1, p2, l2, p3, l3, hl1, hl2, hl3, hl1', hl2', hl3', r0, r1, r2, r3⟩ := hlex
  generalize hxe : (⟨(lineN (nn 0) ++ (lineN (nn 1) ++ lineN (nn 2))).toArray⟩ : Str) = x at *
  have hg156 : g.get? 156 = none := (N₁ (156, tabObj #[]) (by k_mem)).2.2
  refine lexer_c X' T' F₁.keep (by dsimp only; omega) (by dsimp only; omega) x _ C₀ hg156 (N₁ (156, tabObj #[]) (by k_mem)).1 (by omega) ?_
  intro I tl tp h₂ tk₂ O hall htab hk₂
  obtain ⟨ps, hps, tps⟩ := htab
  have t156 : TabIs (tabObj ps) := ⟨ps, rfl, tps, rfl⟩
  have F₂ : Fr g L h₂ m := fr_but F₁ (a := 156) hk₂ (Nat.ne_of_lt h156) hg156
  have n156 : ∀ p ∈ ((L + 1, om) :: (L + 1 + 1, oM) :: (L + 1 + 1 + 1, oh) :: (wd, wordsO nn tw nw) :: (lm, markedO nn mt nm) :: (77, o77) :: (70, o70) :: [] : List (Addr × Obj)), @Ne Nat p.1 156 := by
    refine List.forall_mem_cons.mpr ⟨Nat.ne_of_gt (Nat.lt_succ_of_lt h156), List.forall_mem_cons.mpr ⟨Nat.ne_of_gt (Nat.lt_succ_of_lt (Nat.lt_succ_of_lt h156)), List.forall_mem_cons.mpr ⟨Nat.ne_of_gt (Nat.lt_succ_of_lt (Nat.lt_succ_of_lt (Nat.lt_succ_of_lt h156))), List.forall_mem_cons.mpr ⟨?_, List.forall_mem_cons.mpr ⟨?_, List.forall_mem_cons.mpr ⟨(by decide : @Ne Nat 77 156), List.forall_mem_cons.mpr ⟨(by decide : @Ne Nat 70 156), List.forall_mem_nil _⟩⟩⟩⟩⟩⟩⟩
    · exact ne_obj N₁ (M := 156) (o := tabObj #[]) (by k_mem) (p := (wd, wordsO nn tw nw)) (by k_mem) (fun e => by simp [wordsO, markedO, W.listOf, tabObj] at e)
    · exact ne_obj N₁ (M := 156) (o := tabObj #[]) (by k_mem) (p := (lm, markedO nn mt nm)) (by k_mem) (fun e => by simp [wordsO, markedO, W.listOf, tabObj] at e)
  have N₀ : News g L s.heap ((L + 1, om) :: (L + 1 + 1, oM) :: (L + 1 + 1 + 1, oh) :: (wd, wordsO nn tw nw) :: (lm, markedO nn mt nm) :: (77, o77) :: (70, o70) :: []) := news_sub N₁ (by
    walk_at "my sub")
  have LN := lex_news (A := I.all 1 tl 0 tp) N₀ F₁ n156 hk₂ h156 hg156 hps ⟨_, (N₁ (156, tabObj #[]) (by k_mem)).1⟩ hall
  have N₂ : News g L h₂ (((L + 1, om) :: (L + 1 + 1, oM) :: (L + 1 + 1 + 1, oh) :: (wd, wordsO nn tw nw) :: (lm, markedO nn mt nm) :: (77, o77) :: (70, o70) :: (156, tabObj ps) :: []) ++ I.all 1 tl 0 tp) := LN.1
  have nwI : ∀ p ∈ I.all 1 tl 0 tp, ∀ q ∈ ((L + 1, om) :: (L + 1 + 1, oM) :: (L + 1 + 1 + 1, oh) :: (wd, wordsO nn tw nw) :: (lm, markedO nn mt nm) :: (77, o77) :: (70, o70) :: (156, tabObj ps) :: [] : List (Addr × Obj)), @Ne Nat q.1 p.1 := LN.2
  clear N₀ N₁ F₁ n156 hk₂ hall LN
  k_steps
  have wdM : @Ne Nat wd (L + 1 + 1) := ne_obj N₂ (M := L + 1 + 1) (o := oM) (by k_mem) (p := (wd, wordsO nn tw nw)) (by k_mem) (fun e => by
    have e : (wordsO nn tw nw : Obj) = oM := e
    rw [← e] at dM; cases dM)
  have lmM : @Ne Nat lm (L + 1 + 1) := ne_obj N₂ (M := L + 1 + 1) (o := oM) (by k_mem) (p := (lm, markedO nn mt nm)) (by k_mem) (fun e => by
    have e : (markedO nn mt nm : Obj) = oM := e
    rw [← e] at dM; cases dM)
  have go7 : ∀ p ∈ ((L + 1, om) :: (L + 1 + 1 + 1, oh) :: (wd, wordsO nn tw nw) :: (lm, markedO nn mt nm) :: (77, o77) :: (70, o70) :: (156, tabObj ps) :: [] : List (Addr × Obj)), @Ne Nat p.1 (L + 1 + 1) :=
    List.forall_mem_cons.mpr ⟨Nat.ne_of_lt (Nat.lt_succ_self _), List.forall_mem_cons.mpr ⟨Nat.ne_of_gt (Nat.lt_succ_self _), List.forall_mem_cons.mpr ⟨wdM, List.forall_mem_cons.mpr ⟨lmM, List.forall_mem_cons.mpr ⟨Nat.ne_of_lt (Nat.lt_succ_of_lt (Nat.lt_succ_of_lt h77)), List.forall_mem_cons.mpr ⟨Nat.ne_of_lt (Nat.lt_succ_of_lt (Nat.lt_succ_of_lt h70)), List.forall_mem_cons.mpr ⟨Nat.ne_of_lt (Nat.lt_succ_of_lt (Nat.lt_succ_of_lt h156)), List.forall_mem_nil _⟩⟩⟩⟩⟩⟩⟩
  refine store_cell (pre := [(L + 1, om)]) (c := L + 1 + 1) (o := oM) F₂ N₂ dM ?_ ?_
  · intro p hp
    rw [List.cons_append, List.nil_append] at hp
    rcases List.mem_cons.mp hp with rfl | hp
    · exact go7 _ (.head _)
    rcases List.mem_append.mp hp with hp | hp
    · exact go7 _ (.tail _ hp)
    · exact Ne.symm (nwI p hp (L + 1 + 1, oM) (by k_mem))
  intro h₃ oM' F₃ N₃ dM'
  replace N₃ : News g L h₃ (((L + 1, om) :: (L + 1 + 1, oM') :: (L + 1 + 1 + 1, oh) :: (wd, wordsO nn tw nw) :: (lm, markedO nn mt nm) :: (77, o77) :: (70, o70) :: (156, tabObj ps) :: []) ++ I.all 1 tl 0 tp) := N₃
  replace nwI : ∀ p ∈ I.all 1 tl 0 tp, ∀ q ∈ ((L + 1, om) :: (L + 1 + 1, oM') :: (L + 1 + 1 + 1, oh) :: (wd, wordsO nn tw nw) :: (lm, markedO nn mt nm) :: (77, o77) :: (70, o70) :: (156, tabObj ps) :: [] : List (Addr × Obj)), @Ne Nat q.1 p.1 := fun p hp q hq => by
    rcases List.mem_cons.mp hq with rfl | hq
    · exact nwI p hp (L + 1, om) (by k_mem)
    rcases List.mem_cons.mp hq with rfl | hq
    · exact nwI p hp (L + 1 + 1, oM) (by k_mem)
    · exact nwI p hp q (.tail _ (.tail _ hq))
  clear N₂ F₂
  intro htk₃
  (with_reducible refine wpAny_execs_cons ?_); (try dsimp only); refine wpAny_with_toks (Nat.le_refl _) ?_
  k_steps
  unfold Hold
  refine listComp_step rfl rfl (by decide) ?_
  k_steps
  unfold Hold
  (with_reducible rename News _ _ _ _ => N₄)
  (with_reducible rename Fr _ _ _ _ => F₄)
  replace N₄ : News g L _ (((L + 1, om) :: (L + 1 + 1, oM') :: (L + 1 + 1 + 1, oh) :: (wd, wordsO nn tw nw) :: (lm, markedO nn mt nm) :: (77, o77) :: (70, o70) :: (156, tabObj ps) :: []) ++ I.all 1 tl 0 tp) := N₄
  have hgas : ∀ b ∈ (L + 1 + 1) :: (I.all 1 tl 0 tp).map (·.1), g.get? b = none := by
    intro b hb
    rcases List.mem_cons.mp hb with e | hb
    · rw [e]; exact (N₄ (L + 1 + 1, oM') (by k_mem)).2.2
    · obtain ⟨p, hp, rfl⟩ := List.mem_map.mp hb
      exact (N₄ p (List.mem_append_right _ hp)).2.2
  have hLas : L ∉ (L + 1 + 1) :: (I.all 1 tl 0 tp).map (·.1) := by
    intro hb
    rcases List.mem_cons.mp hb with e | hb
    · exact absurd e (Nat.ne_of_lt (Nat.lt_trans (Nat.lt_succ_self _) (Nat.lt_succ_self _)))
    · obtain ⟨p, hp, e⟩ := List.mem_map.mp hb
      exact (N₄ p (List.mem_append_right _ hp)).2.1 e
  refine comp_list (as := (L + 1 + 1) :: (I.all 1 tl 0 tp).map (·.1)) (news₀ := (L + 1 + 1, oM') :: I.all 1 tl 0 tp) (items := #[.str ⟨(wordN (nn 0)).toArray⟩ (tw 0), .str ⟨(wordN (nn 1)).toArray⟩ (tw 1), .str ⟨(wordN (nn 2)).toArray⟩ (tw 2)])
    (HearJ (s.gens) L oM' I nn l1 l2 l3 p1 p2 p3) rfl (N₄.isList (by k_mem)) (by show 3 ≤ 1000; decide) ?_ ?_ ?_ ⟨rfl, tl, tp, rfl, .nil⟩ (by decide) rfl rfl ?_ ?_
  · intro hb
    rcases List.mem_cons.mp hb with e | hb
    · exact wdM e
    · obtain ⟨p, hp, e⟩ := List.mem_map.mp hb
      exact nwI p hp (wd, wordsO nn tw nw) (by k_mem) e.symm
  · intro b hb
    rcases List.mem_cons.mp hb with e | hb
    · rw [e]; exact ⟨_, (N₄ (L + 1 + 1, oM') (by k_mem)).1⟩
    · obtain ⟨p, hp, rfl⟩ := List.mem_map.mp hb
      exact ⟨_, (N₄ p (List.mem_append_right _ hp)).1⟩
  · intro p hp
    rcases List.mem_cons.mp hp with rfl | hp
    · exact ⟨(N₄ (L + 1 + 1, oM') (by k_mem)).1, .head _⟩
    · exact ⟨(N₄ p (List.mem_append_right _ hp)).1, .tail _ (List.mem_map_of_mem hp)⟩
  · rintro i v ys D C J oJ m₄ news₄ gs h₄ tk₄ nc g₂ hi ⟨rfl, tl', tp', rfl, hz⟩ B hD hCn hne hl F₆ N₆
    have up := B.from F₄ hgas
    have X2 := X'.keeps up
    have T2 := T'.keeps up
    have aM : @Ne Nat (L + 1 + 1) I.d ∧ @Ne Nat (L + 1 + 1) I.AT := ⟨nwI (I.d, lexDict I.q I.k 1 tl I.tw I.S I.pb) (.head _) (L + 1 + 1, oM') (by k_mem), nwI (I.AT, listOf #[.int 0 tp] I.n) (.tail _ (.head _)) (L + 1 + 1, oM') (by k_mem)⟩
    clear X' T' F₄ N₄
    have hi3 : i < 3 := by have := (Array.getElem?_eq_some_iff.mp hi).1; simpa using this
    have hrun : TokRun x (if i = 0 then 0 else if i = 1 then p1 else if i = 2 then p2 else p3) (if i = 0 then 1 else if i = 1 then l1 else if i = 2 then l2 else l3) (if i + 1 = 0 then 0 else if i + 1 = 1 then p1 else if i + 1 = 2 then p2 else p3) (if i + 1 = 0 then 1 else if i + 1 = 1 then l1 else if i + 1 = 2 then l2 else l3) (wordN (nn i)) ∧ 0 ≤ (if i = 0 then (1 : Int) else if i = 1 then l1 else if i = 2 then l2 else l3) ∧ (if i + 1 = 0 then (1 : Int) else if i + 1 = 1 then l1 else if i + 1 = 2 then l2 else l3) ≤ 90000 := by
      rcases lt3 (i := i) (by omega) with rfl | rfl | rfl
      · exact ⟨r0, (by show (0 : Int) ≤ 1; decide), by show l1 ≤ 90000; omega⟩
      · exact ⟨r1, hl1, by show l2 ≤ 90000; omega⟩
      · exact ⟨r2, hl2, by show l3 ≤ 90000; omega⟩
    k_steps
    unfold Hold
    (with_reducible rename News _ _ _ _ => N₇)
    (with_reducible rename Fr _ _ _ _ => F₇)
    show wpAny _ _ (call (.ref 140) [.ref I.a]) _ _ _
    refine get_token_c X2 T2 F₇.keep (by dsimp only; omega) (by dsimp only; omega) x I O _ tl' _ tp' hrun.2.1 _ _ _ hrun.2.2 (Nat.le_trans (wordN_stalk (hnn i hi3)).len (by decide)) hrun.1 (fun p hp => ⟨(N₇ p (.tail _ (.tail _ (.tail _ hp)))).1, (N₇ p (.tail _ (.tail _ (.tail _ hp)))).2.2⟩) ?_
    intro tt' tl₂ tp₂ h₅ tk₅ hall hk
    have dI := hne _ (.tail _ (.head _))
    have dA := hne _ (.tail _ (.tail _ (.head _)))
    obtain ⟨F₈, N₈⟩ := lex_over (pre := [(D, listOf ys.toArray nc), (J, oJ), (L + 1 + 1, oM')]) F₇ N₇ (List.forall_mem_cons.mpr ⟨⟨Ne.symm (hne _ (.tail _ (.head _))).1, Ne.symm (hne _ (.tail _ (.tail _ (.head _)))).1⟩, List.forall_mem_cons.mpr ⟨⟨Ne.symm (hne _ (.tail _ (.head _))).2, Ne.symm (hne _ (.tail _ (.tail _ (.head _)))).2⟩, List.forall_mem_cons.mpr ⟨aM, List.forall_mem_nil _⟩⟩⟩) hall hk
    refine ⟨_, _, _, h₅, tk₅, rfl, F₈, N₈, ?_, rfl, tl₂, tp₂, rfl, ?_⟩
    · intro p hp
      rcases List.mem_cons.mp hp with rfl | hp
      · exact hne (L + 1 + 1, oM') (.head _)
      rcases List.mem_cons.mp hp with rfl | hp
      · exact dI
      rcases List.mem_cons.mp hp with rfl | hp
      · exact dA
      · exact hne p (.tail _ (.tail _ (.tail _ hp)))
    · rcases lt3 (i := i) (by omega) with rfl | rfl | rfl
      all_goals exact hz.append' (.cons _ _ .nil)
  · rintro D C ys m₄ news₄ gs h₄ tk₄ nc g₂ ⟨rfl, tl', tp', rfl, hz⟩ hl B hD hCn hDC hne F₆ N₆
    refine ⟨_, F₆.ns, fun h₅ hs₅ => ?_⟩
    have hout : ∀ p ∈ ((L + 1, om) :: (L + 1 + 1 + 1, oh) :: (wd, wordsO nn tw nw) :: (lm, markedO nn mt nm) :: (77, o77) :: (70, o70) :: (156, tabObj ps) :: [] : List (Addr × Obj)), p.1 ∉ (L + 1 + 1) :: (I.all 1 tl 0 tp).map (·.1) := by
      intro p hp hb
      rcases List.mem_cons.mp hb with e | hb
      · refine (show @Ne Nat p.1 (L + 1 + 1) from ?_) e
        exact go7 p hp
      · obtain ⟨q, hq, e⟩ := List.mem_map.mp hb
        exact nwI q hq p ((show ∀ p ∈ ((L + 1, om) :: (L + 1 + 1 + 1, oh) :: (wd, wordsO nn tw nw) :: (lm, markedO nn mt nm) :: (77, o77) :: (70, o70) :: (156, tabObj ps) :: [] : List (Addr × Obj)), p ∈ _ by walk_at "my sub") p hp) e.symm
    obtain ⟨F₇, N₇, NC, _⟩ := comp_out F₄ (news_sub N₄ (l' := (L + 1, om) :: (L + 1 + 1 + 1, oh) :: (wd, wordsO nn tw nw) :: (lm, markedO nn mt nm) :: (77, o77) :: (70, o70) :: (156, tabObj ps) :: []) (by
      walk_at "my sub")) B hCn hLas hgas F₆ N₆ hs₅ hout
    replace NC : News g L h₅ ((D, listOf ys.toArray nc) :: (L + 1 + 1, oM') :: I.all l3 tl' p3 tp') := NC
    replace hz : StrsAre ys [⟨(wordN (nn 0)).toArray⟩, ⟨(wordN (nn 1)).toArray⟩, ⟨(wordN (nn 2)).toArray⟩] := hz
    have NN : News g L h₅ ((L + 1, om) :: (L + 1 + 1 + 1, oh) :: (wd, wordsO nn tw nw) :: (lm, markedO nn mt nm) :: (77, o77) :: (70, o70) :: (156, tabObj ps) :: (D, listOf ys.toArray nc) :: (L + 1 + 1, oM') :: I.all l3 tl' p3 tp') := news_app N₇ NC
    have nwJ : ∀ p ∈ I.all l3 tl' p3 tp', ∀ q ∈ ((L + 1, om) :: (L + 1 + 1, oM') :: (L + 1 + 1 + 1, oh) :: (wd, wordsO nn tw nw) :: (lm, markedO nn mt nm) :: (77, o77) :: (70, o70) :: (156, tabObj ps) :: [] : List (Addr × Obj)), @Ne Nat q.1 p.1 := fun p hp q hq => by
      rcases List.mem_cons.mp hp with rfl | hp
      · exact nwI _ (.head _) q hq
      rcases List.mem_cons.mp hp with rfl | hp
      · exact nwI _ (.tail _ (.head _)) q hq
      · exact nwI p (.tail _ (.tail _ hp)) q hq
    have h3 : ∀ p ∈ ((L + 1, om) :: (wd, wordsO nn tw nw) :: (lm, markedO nn mt nm) :: (77, o77) :: (70, o70) :: (156, tabObj ps) :: (D, listOf ys.toArray nc) :: (L + 1 + 1, oM') :: I.all l3 tl' p3 tp' : List (Addr × Obj)), @Ne Nat p.1 (L + 1 + 1 + 1) := by
      have ls : ∀ (its : Array Value) (n : Nat), (listOf its n : Obj) ≠ oh := fun its n e => by rw [← e] at dh; cases dh
      refine List.forall_mem_cons.mpr ⟨Nat.ne_of_lt (Nat.lt_trans (Nat.lt_succ_self _) (Nat.lt_succ_self _)), List.forall_mem_cons.mpr ⟨ne_obj NN (M := L + 1 + 1 + 1) (o := oh) (by k_mem) (p := (wd, wordsO nn tw nw)) (by k_mem) (ls _ _), List.forall_mem_cons.mpr ⟨ne_obj NN (M := L + 1 + 1 + 1) (o := oh) (by k_mem) (p := (lm, markedO nn mt nm)) (by k_mem) (ls _ _), List.forall_mem_cons.mpr ⟨Nat.ne_of_lt (Nat.lt_succ_of_lt (Nat.lt_succ_of_lt (Nat.lt_succ_of_lt h77))), List.forall_mem_cons.mpr ⟨Nat.ne_of_lt (Nat.lt_succ_of_lt (Nat.lt_succ_of_lt (Nat.lt_succ_of_lt h70))), List.forall_mem_cons.mpr ⟨Nat.ne_of_lt (Nat.lt_succ_of_lt (Nat.lt_succ_of_lt (Nat.lt_succ_of_lt h156))), List.forall_mem_cons.mpr ⟨ne_obj NN (M := L + 1 + 1 + 1) (o := oh) (by k_mem) (p := (D, listOf ys.toArray nc)) (by k_mem) (ls _ _), List.forall_mem_cons.mpr ⟨Nat.ne_of_lt (Nat.lt_succ_self _), fun p hp => Ne.symm (nwJ p hp (L + 1 + 1 + 1, oh) (by k_mem))⟩⟩⟩⟩⟩⟩⟩⟩
    have dne : ∀ p ∈ I.all l3 tl' p3 tp', p.1 ≠ D := fun p hp => hne p (.tail _ hp)
    have dlm : @Ne Nat D lm := fun e => by
      have e : D = lm := e
      have z := (N₄ (lm, markedO nn mt nm) (by k_mem)).1
      rw [e] at hD
      rw [hD] at z; cases z
    clear F₄ N₄ F₆ N₆ N₇ NC hout nwI hgas hLas hne hs₅ B
    k_steps
    refine store_cell (pre := [(L + 1, om)]) (c := L + 1 + 1 + 1) (o := oh) F₇ NN dh (fun p hp => h3 p hp) ?_
    intro h₆ oh' F₈ N₈ dh'
    replace N₈ : News g L h₆ ((L + 1, om) :: (L + 1 + 1 + 1, oh') :: (wd, wordsO nn tw nw) :: (lm, markedO nn mt nm) :: (77, o77) :: (70, o70) :: (156, tabObj ps) :: (D, listOf ys.toArray nc) :: (L + 1 + 1, oM') :: I.all l3 tl' p3 tp') := N₈
    clear F₇ NN
    intro htk₆
    (with_reducible refine wpAny_execs_cons ?_); (try dsimp only); refine wpAny_with_toks (Nat.le_refl _) ?_
    k_steps
    refine ne_strs (N₈.isList (by k_mem)) (N₈.isList (by k_mem)) hz (.cons _ _ (.cons _ _ (.cons _ _ .nil))) ?_ (by simp only [units_deeper]; unfold cLine; omega) ?_
    · exact List.forall_mem_cons.mpr ⟨word_ok (hnn 0 (by decide)), List.forall_mem_cons.mpr ⟨word_ok (hnn 1 (by decide)), List.forall_mem_cons.mpr ⟨word_ok (hnn 2 (by decide)), List.forall_mem_nil _⟩⟩⟩
    k_steps
    unfold Hold
    (with_reducible rename News _ _ _ _ => N₉)
    (with_reducible rename Fr _ _ _ _ => F₉)
    show wpAny _ _ (call (.ref 140) [.ref I.a]) _ _ _
    refine get_token_c X' T' F₉.keep (by dsimp only; omega) (by dsimp only; omega) x I O l3 tl' p3 tp' hl3 x.length 4 [] (by omega) (by decide) r3 (fun p hp => ⟨(N₉ p (List.mem_append_right [(L + 1, om), (L + 1 + 1 + 1, oh'), (wd, wordsO nn tw nw), (lm, markedO nn mt nm), (77, o77), (70, o70), (156, tabObj ps), (D, listOf ys.toArray nc), (L + 1 + 1, oM')] hp)).1, (N₉ p (List.mem_append_right [(L + 1, om), (L + 1 + 1 + 1, oh'), (wd, wordsO nn tw nw), (lm, markedO nn mt nm), (77, o77), (70, o70), (156, tabObj ps), (D, listOf ys.toArray nc), (L + 1 + 1, oM')] hp)).2.2⟩) ?_
    intro tt' tl₂ tp₂ h₇ tk₇ hall hk
    have preI : ∀ p ∈ ([(L + 1, om), (L + 1 + 1 + 1, oh'), (wd, wordsO nn tw nw), (lm, markedO nn mt nm), (77, o77), (70, o70), (156, tabObj ps), (D, listOf ys.toArray nc), (L + 1 + 1, oM')] : List (Addr × Obj)), @Ne Nat p.1 I.d ∧ @Ne Nat p.1 I.AT := by
      have a1 := nwJ _ (.head _)
      have a2 := nwJ _ (.tail _ (.head _))
      have d1 := dne _ (.head _)
      have d2 := dne _ (.tail _ (.head _))
      intro p hp
      simp only [List.mem_cons, List.not_mem_nil, or_false] at hp
      rcases hp with rfl | rfl | rfl | rfl | rfl | rfl | rfl | rfl | rfl
      · exact ⟨a1 (L + 1, om) (by k_mem), a2 (L + 1, om) (by k_mem)⟩
      · exact ⟨a1 (L + 1 + 1 + 1, oh) (by k_mem), a2 (L + 1 + 1 + 1, oh) (by k_mem)⟩
      · exact ⟨a1 (wd, wordsO nn tw nw) (by k_mem), a2 (wd, wordsO nn tw nw) (by k_mem)⟩
      · exact ⟨a1 (lm, markedO nn mt nm) (by k_mem), a2 (lm, markedO nn mt nm) (by k_mem)⟩
      · exact ⟨a1 (77, o77) (by k_mem), a2 (77, o77) (by k_mem)⟩
      · exact ⟨a1 (70, o70) (by k_mem), a2 (70, o70) (by k_mem)⟩
      · exact ⟨a1 (156, tabObj ps) (by k_mem), a2 (156, tabObj ps) (by k_mem)⟩
      · exact ⟨Ne.symm d1, Ne.symm d2⟩
      · exact ⟨a1 (L + 1 + 1, oM') (by k_mem), a2 (L + 1 + 1, oM') (by k_mem)⟩
    obtain ⟨F₁₀, N₁₀⟩ := lex_over (pre := [(L + 1, om), (L + 1 + 1 + 1, oh'), (wd, wordsO nn tw nw), (lm, markedO nn mt nm), (77, o77), (70, o70), (156, tabObj ps), (D, listOf ys.toArray nc), (L + 1 + 1, oM')]) F₉ N₉ preI hall hk
    clear F₉ N₉ hk hall
    k_steps
    unfold Hold
    dsimp only
    rename_i hle
    (with_reducible rename News _ _ _ _ => N₁₁)
    (with_reducible rename Fr _ _ _ _ => F₁₁)
    obtain ⟨t0, t1, t2, rfl⟩ : ∃ t0 t1 t2, ys = [.str ⟨(wordN (nn 0)).toArray⟩ t0, .str ⟨(wordN (nn 1)).toArray⟩ t1, .str ⟨(wordN (nn 2)).toArray⟩ t2] := by
      cases hz with
      | cons _ t0 h => cases h with
        | cons _ t1 h => cases h with
          | cons _ t2 h => cases h; exact ⟨t0, t1, t2, rfl⟩
    refine wpAny_mono (law_mid X' T' hroom hu ho₂ D lm om oh' o77 o70 (tabObj ps) nc nm (fun j => ⟨(wordN (nn j)).toArray⟩) (fun j => if j = 0 then t0 else if j = 1 then t1 else t2) mt (fun j => markN (nn j)) (fun j => wordN (nn j)) dm dh' (fun j => by simp) (fun j hj => wordN_stalk (hnn j hj)) hmt0 t77 t70 t156 g77 g70 h77 h70 h156 dlm _ G (fun j hj => Nat.lt_of_lt_of_le (hmt j hj) (Nat.le_trans htk₃ (Nat.le_trans htk₆ hle))) m F₁₁ (news_sub N₁₁ ?_)) (fun _ _ y => y) fun _ _ y => y
    intro p hp
    refine List.mem_append_left _ ?_
    rcases List.mem_cons.mp hp with rfl | hp
    · k_mem
    rcases List.mem_cons.mp hp with rfl | hp
    · k_mem
    rcases List.mem_cons.mp hp with rfl | hp
    · exact .tail _ (.tail _ (.tail _ (.tail _ (.tail _ (.tail _ (.tail _ (.head _)))))))
    rcases List.mem_cons.mp hp with rfl | hp
    · k_mem
    rcases List.mem_cons.mp hp with rfl | hp
    · k_mem
    rcases List.mem_cons.mp hp with rfl | hp
    · k_mem
    rcases List.mem_cons.mp hp with rfl | hp
    · k_mem
    · cases hp
end Mine
end

end

section
open PySem PySem.W PyProof.Rows PySem.Calls PyProof.V
namespace Mine
local macro_rules | `(tactic| walk_at "exec For Name Name cons nil") => `(tactic| with_unfolding_all (refine wpAny_For ?_))
theorem lines_len {nn : Nat → Nat} (hnn : ∀ j, j < 3 → nn j < 150) (i : Nat) (hi : i ≤ 3) : ((List.range i).flatMap fun j => lineN (nn j)).length ≤ 9 * i := by
  induction i with
  | zero => simp
  | succ i ih =>
    rw [List.range_succ, List.flatMap_append, List.length_append]
    have := ih (by omega)
    have := line_len (hnn i (by omega))
    simp only [List.flatMap_cons, List.flatMap_nil, List.append_nil]
    omega
theorem three_eq {a : Array Value} {x y z : Value} (h : a.size = 3) (h0 : a[0]? = some x) (h1 : a[1]? = some y) (h2 : a[2]? = some z) : a = #[x, y, z] := by
  obtain ⟨l⟩ := a
  obtain ⟨p, q, r, rfl⟩ := list3 h
  simp at h0 h1 h2
  rw [h0, h1, h2]
inductive WordsJ (gs₀ : Array GenState) (L : Addr) (W : Addr) (M : Addr) (nl : Addr) (om' : Obj) (oM : Obj) (oh : Obj) (o77 : Obj) (o70 : Obj) (nv : List Value) (kn : Nat) (nn : Nat → Nat) (i : Nat) (m' : Str → Option Value) (news : List (Addr × Obj)) (gs' : Array GenState) (tk' : Nat) : Prop
  | mk : (gs' = gs₀) → ∀ (ws ms : Array Value) (n1 n2 : Nat) (tw tm : Nat → Tok), (news = (L + 1, om') :: (W, listOf ws n1) :: (M, listOf ms n2) :: (nl, listOf nv.toArray kn) :: (L + 1 + 1, oM) :: (L + 1 + 1 + 1, oh) :: (77, o77) :: (70, o70) :: (156, tabObj #[]) :: []) → (ws.size = i) → (ms.size = i) → ((∀ j, j < i → ws[j]? = some (.str ⟨(wordN (nn j)).toArray⟩ (tw j)) ∧ ms[j]? = some (.str ⟨#[markN (nn j)]⟩ (tm j)) ∧ tm j ≠ 0 ∧ @LT.lt Nat _ (tm j) tk')) → ((∃ tt, m' (Str.ofString "text") = some (.str ⟨((List.range i).flatMap fun j => lineN (nn j)).toArray⟩ tt))) → (m' (Str.ofString "words") = some (.ref W)) → WordsJ gs₀ L W M nl om' oM oh o77 o70 nv kn nn i m' news gs' tk'
theorem law_words : ∀ {w : World} {dp u : Nat} {fr : Option (List Env)} {gd : Option (List Code)} {g : Heap} {mg mb : Str → Option Value} {p : Program} {loose : List Str} {mean : ExcName → Option Value} {L : Addr}
    {name qual : Str} {params : Arguments} {body : List Stmt} {scope : Scope} {dV kV doc pm cdv ct oc : Value} {an od : Option Addr} {osl : Array (Option Value)}
    (X' : (hd.heap_1 w.params).In g) (T' : Top p loose mean mg mb g) (hroom : dp < 310) (hu : u < 1000)
    (ho : (hd.heap_1 w.params).lookup 178 = some ⟨oc, od, .func (fnOf name qual params body scope dV kV doc pm an cdv ct), osl⟩)
    (nl : Addr) (kn : Nat) (nv : List Value) (om oM oh o77 o70 : Obj) (nn : Nat → Nat) (hnl : @LT.lt Nat _ (L + 1 + 1 + 1) nl)
    (dm : om.data = .cell none) (dM : oM.data = .cell none) (dh : oh.data = .cell none)
    (hnn : ∀ j, j < 3 → nn j < 150) (hnv : IntsAre nv [(nn 0 : Int), (nn 1 : Int), (nn 2 : Int)])
    (t77 : TabIs o77) (t70 : TabIs o70) (g77 : CodeKnown g 81 77) (g70 : CodeKnown g 74 70) (C₀ : CodeHd g 160 156) (h77 : @LT.lt Nat _ 77 L) (h70 : @LT.lt Nat _ 70 L) (h156 : @LT.lt Nat _ 156 L)
    (s : Shared) (G : AllBare s.gens) (m : Str → Option Value)
    (m1 : m (Str.ofString "numbers") = some (.ref nl))
    (F : Fr g L s.heap m) (N : News g L s.heap ((nl, listOf nv.toArray kn) :: (L + 1, om) :: (L + 1 + 1, oM) :: (L + 1 + 1 + 1, oh) :: (77, o77) :: (70, o70) :: (156, tabObj #[]) :: [])),
    wpAny (model PySem.Challenge.rw_re0035_01.row.prog w) (Around.deeper ⟨none, dp, fr, gd, u⟩ (envOfC qual scope L 178 cdv)) (execs body.tail.tail (envOfC qual scope L 178 cdv))
      (LawPost g s.os) (fun _ _ => False) s := by
  k_fill
  intro w dp u fr gd g mg mb p loose mean L name qual params body scope dV kV doc pm cdv ct oc an od osl X' T' hroom hu ho nl kn nv om oM oh o77 o70 nn hnl dm dM dh hnn hnv t77 t70 g77 g70 C₀ h77 h70 h156 s G m m1 F N
  have ho₂ := ho
  obtain ⟨q1, q2, q3, q4⟩ := fn_inj ho (by k_is)
  subst q1 q2 q3 q4
  clear ho
  simp only [List.tail]
  (with_reducible refine wpAny_execs_cons ?_); (try dsimp only); refine wpAny_with_toks (Nat.le_refl _) ?_
  k_steps
  unfold Hold
  (with_reducible refine wpAny_execs_cons ?_); (try dsimp only); refine wpAny_with_toks (Nat.le_refl _) ?_
  k_steps
  unfold Hold
  (with_reducible refine wpAny_execs_cons ?_); (try dsimp only); refine wpAny_with_toks (Nat.le_refl _) ?_
  k_steps
  unfold Hold
  (with_reducible rename News _ _ _ _ => N₁)
  (with_reducible rename Fr _ _ _ _ => F₁)
  rename_i W _ hW _ htk1 M _ hM _ om' dm' htk2 _ htk3
  (with_reducible refine wpAny_execs_cons ?_); (try dsimp only); refine wpAny_with_toks (Nat.le_refl _) ?_
  k_steps
  unfold Hold
  (with_reducible rename News _ _ _ _ => N₂)
  (with_reducible rename Fr _ _ _ _ => F₂)
  obtain ⟨w1, w2, w3, w4, w5, w6, w7⟩ := hW
  obtain ⟨x0, x1, x2, x3, x4, x5, x6, x7⟩ := hM
  have aR : ∀ p ∈ ((nl, listOf nv.toArray kn) :: (L + 1 + 1, oM) :: (L + 1 + 1 + 1, oh) :: (77, o77) :: (70, o70) :: (156, tabObj #[]) :: [] : List (Addr × Obj)), @Ne Nat p.1 W ∧ @Ne Nat p.1 M :=
    List.forall_mem_cons.mpr ⟨⟨Nat.ne_of_lt w1, Nat.ne_of_lt x1⟩, List.forall_mem_cons.mpr ⟨⟨Nat.ne_of_lt w3, Nat.ne_of_lt x3⟩, List.forall_mem_cons.mpr ⟨⟨Nat.ne_of_lt w4, Nat.ne_of_lt x4⟩, List.forall_mem_cons.mpr ⟨⟨Nat.ne_of_lt w5, Nat.ne_of_lt x5⟩, List.forall_mem_cons.mpr ⟨⟨Nat.ne_of_lt w6, Nat.ne_of_lt x6⟩, List.forall_mem_cons.mpr ⟨⟨Nat.ne_of_lt w7, Nat.ne_of_lt x7⟩, List.forall_mem_nil _⟩⟩⟩⟩⟩⟩
  refine for_listT (news := (L + 1, om') :: (W, listOf #[] 0) :: (M, listOf #[] 0) :: (nl, listOf nv.toArray kn) :: (L + 1 + 1, oM) :: (L + 1 + 1 + 1, oh) :: (77, o77) :: (70, o70) :: (156, tabObj #[]) :: []) (items := nv.toArray)
    (J := WordsJ (s.gens) L W M nl om' oM oh o77 o70 nv kn nn) rfl rfl rfl F₂ (news_sub N₂ ?_) (N₂.isList (by k_mem)) (Nat.ne_of_gt (Nat.lt_trans (Nat.lt_trans (Nat.lt_trans (Nat.lt_succ_self _) (Nat.lt_succ_self _)) (Nat.lt_succ_self _)) hnl)) ?_ ?_ ?_ ?_
  · walk_at "my sub"
  · rintro i m' news gs' t t' hle ⟨rfl, ws, ms, n1, n2, tw, tm, e1, e2, e3, e4, e5, e6⟩
    exact ⟨rfl, ws, ms, n1, n2, tw, tm, e1, e2, e3, fun j hj => ⟨(e4 j hj).1, (e4 j hj).2.1, (e4 j hj).2.2.1, Nat.lt_of_lt_of_le (e4 j hj).2.2.2 hle⟩, e5, e6⟩
  · exact ⟨rfl, #[], #[], 0, 0, fun _ => 0, fun _ => 0, rfl, rfl, rfl, fun j hj => absurd hj (Nat.not_lt_zero _), ⟨_, rfl⟩, rfl⟩
  · rintro i v I oI m₁ news₁ gs' h₁ tk₁ hi ⟨rfl, ws, ms, n1, n2, tw, tm, rfl, e2, e3, e4, ⟨tt, e5⟩, e6⟩ hI hI' hl F₃ N₃
    clear F₂ N₂
    have hi3 : i < 3 := by
      have := (Array.getElem?_eq_some_iff.mp hi).1
      rw [List.size_toArray, hnv.length] at this; exact this
    obtain ⟨t, ht⟩ := ints_at hnv hi3
    have hv : v = .int (nn i : Nat) t := by
      have : nv[i]? = some v := by simpa using hi
      rw [ht] at this
      rw [← Option.some.inj this]
      rcases lt3 (i := i) (by omega) with rfl | rfl | rfl <;> rfl
    subst hv
    have IW : @LT.lt Nat _ W I := hI (W, listOf #[] 0) (by k_mem)
    have IM : @LT.lt Nat _ M I := hI (M, listOf #[] 0) (by k_mem)
    refine wpAny_with_toks (n := tk₁) (Nat.le_refl _) (wpAny_mono (word_turn X' T' (by omega) (by omega) ho₂ W M om' ws ms n1 n2 ((I, oI) :: (nl, listOf nv.toArray kn) :: (L + 1 + 1, oM) :: (L + 1 + 1 + 1, oh) :: (77, o77) :: (70, o70) :: (156, tabObj #[]) :: []) _ tt dm' (Nat.ne_of_gt w2) (Nat.ne_of_gt x2) (Nat.ne_of_lt x0) (List.forall_mem_cons.mpr ⟨⟨Nat.ne_of_gt IW, Nat.ne_of_gt IM⟩, aR⟩) (by omega) (by omega) (Nat.le_trans (lines_len hnn i (by omega)) (by omega)) s.gens s.drawn s.os _ (nn i) t (hnn i hi3) h₁ tk₁ (if_pos rfl) ((if_neg (by decide)).trans e6) ((if_neg (by decide)).trans e5) F₃ (news_sub N₃ ?_)) ?_ fun _ _ y _ => y)
    · walk_at "my sub"
    · rintro f' s' ⟨rfl, m₃, h₃, tk₃, k1, k2, tw', tm', tt', rfl, F₄, N₄, g1, g2, g3, g4⟩ hle
      refine ⟨m₃, _, s.gens, h₃, tk₃, rfl, F₄, news_sub N₄ ?_, ?_, ?_, rfl, ws.push (.str ⟨(wordN (nn i)).toArray⟩ tw'), ms.push (.str ⟨#[markN (nn i)]⟩ tm'), k1, k2, (fun j => if j = i then tw' else tw j), (fun j => if j = i then tm' else tm j), rfl, by rw [Array.size_push, e2], by rw [Array.size_push, e3], ?_, ⟨tt', ?_⟩, ?_⟩
      · walk_at "my sub"
      · exact List.forall_mem_cons.mpr ⟨hI' (L + 1, om') (.head _), List.forall_mem_cons.mpr ⟨Nat.ne_of_lt IW, List.forall_mem_cons.mpr ⟨Nat.ne_of_lt IM, fun p hp => hI' p (.tail _ (.tail _ (.tail _ hp)))⟩⟩⟩
      · intro b hb o e
        rw [List.mem_singleton.mp hb] at e ⊢
        have z := (N₃ (nl, listOf nv.toArray kn) (by k_mem)).1
        rw [z] at e
        rw [← Option.some.inj e]
        exact (N₄ (nl, listOf nv.toArray kn) (by k_mem)).1
      · intro j hj
        by_cases q : j = i
        · subst q
          simp only [if_true]
          refine ⟨?_, ?_, g3, g4⟩
          · rw [← e2]; simp
          · rw [← e3]; simp
        · have hj' : j < i := by omega
          obtain ⟨a, b, c, d⟩ := e4 j hj'
          simp only [if_neg q]
          have z1 : j < ws.size := by omega
          have z2 : j < ms.size := by omega
          refine ⟨?_, ?_, c, ?_⟩
          · rw [Array.getElem?_push_lt z1]; rw [Array.getElem?_eq_getElem z1] at a; exact a
          · rw [Array.getElem?_push_lt z2]; rw [Array.getElem?_eq_getElem z2] at b; exact b
          · exact Nat.lt_of_lt_of_le d hle
      · rw [List.range_succ, List.flatMap_append]
        simpa using g1
      · exact (g2 _ (by decide) (by decide) (by decide) (by decide)).trans ((if_neg (by decide)).trans e6)
  · rintro m₁ news₁ gs' h₁ tk₁ ⟨rfl, ws, ms, n1, n2, tw, tm, rfl, e2, e3, e4, ⟨tt, e5⟩, e6⟩ F₃ N₃
    clear F₂ N₂
    intro htk
    dsimp only
    have hs : nv.toArray.size = 3 := by rw [List.size_toArray, hnv.length]; rfl
    rw [hs] at e2 e3 e4 e5
    have hws : ws = #[.str ⟨(wordN (nn 0)).toArray⟩ (tw 0), .str ⟨(wordN (nn 1)).toArray⟩ (tw 1), .str ⟨(wordN (nn 2)).toArray⟩ (tw 2)] := three_eq e2 (e4 0 (by decide)).1 (e4 1 (by decide)).1 (e4 2 (by decide)).1
    have hms : ms = #[.str ⟨#[markN (nn 0)]⟩ (tm 0), .str ⟨#[markN (nn 1)]⟩ (tm 1), .str ⟨#[markN (nn 2)]⟩ (tm 2)] := three_eq e3 (e4 0 (by decide)).2.1 (e4 1 (by decide)).2.1 (e4 2 (by decide)).2.1
    subst hws hms
    have e5' : m₁ (Str.ofString "text") = some (.str ⟨(lineN (nn 0) ++ (lineN (nn 1) ++ lineN (nn 2))).toArray⟩ tt) := by
      rw [e5]
      have : (List.range 3).flatMap (fun j => lineN (nn j)) = lineN (nn 0) ++ (lineN (nn 1) ++ lineN (nn 2)) := by
        rw [show List.range 3 = [0, 1, 2] from rfl]; simp
      rw [this]
    refine wpAny_mono (law_hear X' T' hroom hu ho₂ W M om' oM oh o77 o70 n1 n2 nn tw tm tt dm' dM dh hnn (fun j hj => (e4 j hj).2.2.1) t77 t70 g77 g70 C₀ h77 h70 h156 ⟨h₁, s.gens, s.drawn, tk₁, s.os⟩ G (fun j hj => (e4 j hj).2.2.2) m₁ e5' e6 F₃ (news_sub N₃ ?_)) (fun _ _ y => y) fun _ _ y => y
    walk_at "my sub"
end Mine
end

section
open PySem PySem.W PyProof.Rows PySem.Calls PyProof.V
namespace Mine
local macro_rules | `(tactic| walk_at "eval ListComp") => `(tactic| refine hold ?_)
local macro_rules | `(tactic| walk_at "eval Name") => `(tactic| (k_inBlock; (with_reducible rename Fr _ _ _ _ => kF); with_unfolding_all (refine nameB_local kF (if_pos rfl) ?_ rfl rfl (by decide))))
theorem mod_nat (z : Int) : ((z.fmod 150).toNat : Int) = z.fmod 150 ∧ (z.fmod 150).toNat < 150 := by
  have h1 : 0 ≤ z.fmod 150 := Int.fmod_nonneg_of_pos _ (by decide)
  have h2 : z.fmod 150 < 150 := Int.fmod_lt_of_pos _ (by decide)
  omega
theorem nums3 (zs : List Int) (h : zs.length ≤ 3) : ∃ nn : Nat → Nat, (∀ j, j < 3 → nn j < 150) ∧ (zs.map (fun z => z.fmod 150) ++ List.drop (((zs.map fun z => z.fmod 150).length : Nat) : Int).toNat [4, 94, 31]) = [(nn 0 : Int), (nn 1 : Int), (nn 2 : Int)] := by
  have mk : ∀ x y z : Nat, x < 150 → y < 150 → z < 150 → ∀ j, j < 3 → (if j = 0 then x else if j = 1 then y else z) < 150 := by
    intro x y z hx hy hz j hj
    split
    · exact hx
    · split
      · exact hy
      · exact hz
  match zs, h with
  | [], _ => exact ⟨fun j => if j = 0 then 4 else if j = 1 then 94 else 31, mk _ _ _ (by decide) (by decide) (by decide), rfl⟩
  | [a], _ =>
    refine ⟨fun j => if j = 0 then (a.fmod 150).toNat else if j = 1 then 94 else 31, mk _ _ _ (mod_nat a).2 (by decide) (by decide), ?_⟩
    show [a.fmod 150, 94, 31] = [((a.fmod 150).toNat : Int), 94, 31]
    rw [(mod_nat a).1]
  | [a, b], _ =>
    refine ⟨fun j => if j = 0 then (a.fmod 150).toNat else if j = 1 then (b.fmod 150).toNat else 31, mk _ _ _ (mod_nat a).2 (mod_nat b).2 (by decide), ?_⟩
    show [a.fmod 150, b.fmod 150, 31] = [((a.fmod 150).toNat : Int), ((b.fmod 150).toNat : Int), 31]
    rw [(mod_nat a).1, (mod_nat b).1]
  | [a, b, c], _ =>
    refine ⟨fun j => if j = 0 then (a.fmod 150).toNat else if j = 1 then (b.fmod 150).toNat else (c.fmod 150).toNat, mk _ _ _ (mod_nat a).2 (mod_nat b).2 (mod_nat c).2, ?_⟩
    show [a.fmod 150, b.fmod 150, c.fmod 150] = [((a.fmod 150).toNat : Int), ((b.fmod 150).toNat : Int), ((c.fmod 150).toNat : Int)]
    rw [(mod_nat a).1, (mod_nat b).1, (mod_nat c).1]
  | _ :: _ :: _ :: _ :: _, h => exact absurd h (by simp)
theorem law_c : ∀ {w : World} {dp u : Nat} {fr : Option (List Env)} {gd : Option (List Code)} {h₀ : Heap} {mg mb : Str → Option Value} {s : Shared} {p : Program} {loose : List Str} {mean : ExcName → Option Value}
    {Q E : Value → Shared → Prop} (X : (hd.heap_1 w.params).In h₀) (T : Top p loose mean mg mb h₀) (hk : ∀ b o, h₀.get? b = some o → s.heap.get? b = some o) (hroom : dp < 310) (hu : u < 900)
    (sc : Addr) (vs : List Value) (ns : List Int) (hl : h₀.IsList sc vs.toArray) (hi : IntsAre vs ns) (hn : ns.length ≤ 63)
    (C₀ : CodeHd h₀ 160 156) (hC : ∃ qs, IsCodeT s.heap 81 77 qs) (hC' : ∃ qs, IsCodeT s.heap 74 70 qs) (ht : s.heap.get? 156 = some (tabObj #[])) (h77 : h₀.get? 77 = none) (h70 : h₀.get? 70 = none) (h156 : h₀.get? 156 = none) (G : AllBare s.gens)
    (h : ∀ (s' : Shared), LawPost (hideAll s.heap [70, 77, 156]) s.os (.ret (.bool true)) s' → Q (.bool true) s'),
    wpAny (model PySem.Challenge.rw_re0035_01.row.prog w) ⟨none, dp, fr, gd, u⟩ (call (.ref 178) [.ref sc]) Q E s := by
  k_fill
  intro w dp u fr gd h₀ mg mb s p loose mean Q E X T hk hroom hu sc vs ns hl hi hn C₀ hC hC' ht h77 h70 h156 G hQ
  have ho := fn_at (K := hd.heap_1 w.params) (f := 178) (by k_is)
  obtain ⟨o77, q77, v77⟩ := tab_of_code hC
  obtain ⟨o70, q70, v70⟩ := tab_of_code hC'
  refine' enterCT (as := [70, 77, 156]) (binds := [(Str.ofString "script", .ref sc)]) X T hk ?n ?k6 ?k7 ?k8 ?k9 ?kB ?c1 ?c2 ?c3 ?c4 ?_
  case n =>
    intro b hb
    simp only [List.mem_cons, List.not_mem_nil, or_false] at hb
    rcases hb with rfl | rfl | rfl <;> assumption
  case k6 => k_is
  case k7 => k_is
  case k8 => simp only [recursionLimit]; omega
  case k9 => exact BindsTo.of_eq rfl
  case kB => rfl
  case c1 => decide
  case c2 => exact rfl
  case c3 => exact rfl
  case c4 => exact rfl
  intro g L h₁ tk₁ cells hg hL F' hk₁ NC hlt CA X' T' htk₁
  obtain ⟨oh, oM, om, rfl, dh, dM, dm⟩ := CellsAre.three CA
  replace dm : om.data = .cell none := dm
  replace dM : oM.data = .cell none := dM
  replace dh : oh.data = .cell none := dh
  have q156 : s.heap.get? 156 = some (tabObj #[]) := ht
  have N' : News g L h₁ [(L + 1, om), (L + 1 + 1, oM), (L + 1 + 1 + 1, oh), (77, o77), (70, o70), (156, tabObj #[])] :=
    List.forall_mem_cons.mpr ⟨NC _ (.tail _ (.tail _ (.head _))), List.forall_mem_cons.mpr ⟨NC _ (.tail _ (.head _)), List.forall_mem_cons.mpr ⟨NC _ (.head _), List.forall_mem_cons.mpr ⟨⟨hk₁ _ _ q77, Nat.ne_of_lt (hL ▸ Heap.lt_size q77), hg ▸ hideAll_none _ (.tail _ (.head _))⟩,
      List.forall_mem_cons.mpr ⟨⟨hk₁ _ _ q70, Nat.ne_of_lt (hL ▸ Heap.lt_size q70), hg ▸ hideAll_none _ (.head _)⟩, List.forall_mem_cons.mpr ⟨⟨hk₁ _ _ q156, Nat.ne_of_lt (hL ▸ Heap.lt_size q156), hg ▸ hideAll_none _ (.tail _ (.tail _ (.head _)))⟩, List.forall_mem_nil _⟩⟩⟩⟩⟩⟩
  have hL77 : @LT.lt Nat _ 77 L := hL ▸ Heap.lt_size q77
  have hL70 : @LT.lt Nat _ 70 L := hL ▸ Heap.lt_size q70
  have hL156 : @LT.lt Nat _ 156 L := hL ▸ Heap.lt_size q156
  have g0 : ∀ b o, h₀.get? b = some o → g.get? b = some o := fun b o e => hg ▸ get_hide (hk b o e) (by
    simp only [List.mem_cons, List.not_mem_nil, or_false]
    rintro (rfl | rfl | rfl)
    · rw [h70] at e; cases e
    · rw [h77] at e; cases e
    · rw [h156] at e; cases e)
  have hlg : g.IsList sc vs.toArray := hl.at fun o e => g0 _ o e
  have C1 : CodeHd g 160 156 := C₀.keeps g0
  have g77 : CodeKnown g 81 77 := by
    obtain ⟨qs, hC⟩ := hC
    exact codeKnown_of hC fun o e => hg ▸ get_hide e (by decide)
  have g70 : CodeKnown g 74 70 := by
    obtain ⟨qs, hC⟩ := hC'
    exact codeKnown_of hC fun o e => hg ▸ get_hide e (by decide)
  refine wpAny_mono (Q := LawPost g s.os) (E := fun _ _ => False) ?_ (fun f s' z => ?_) fun _ _ y => y
  rotate_left
  · have e : f = .ret (.bool true) := by
      obtain ⟨e, _⟩ := z
      exact e
    subst e
    exact hQ s' (hg ▸ z)
  clear X T CA NC hQ hl hk₁ hk hC hC' C₀ htk₁ hlt q77 q70 q156 ht
  (with_reducible refine wpAny_execs_cons ?_); (try dsimp only); refine wpAny_with_toks (Nat.le_refl _) ?_
  refine listComp_assign (by rfl) rfl rfl (by decide) ?_
  k_steps
  unfold Hold
  (with_reducible rename News _ _ _ _ => N₁)
  (with_reducible rename Fr _ _ _ _ => F₁)
  rename_i S xs _ hI _ _ _
  generalize hzs : List.take 3 ns = zs at *
  have hzl : zs.length ≤ 3 := by rw [← hzs, List.length_take]; omega
  refine comp_list (as := []) (news₀ := []) (items := xs.toArray)
    (fun i ys news gs => gs = s.gens ∧ news = [] ∧ IntsAre ys ((zs.map fun z => z.fmod 150).take i)) rfl (N₁.isList (by k_mem)) (by rw [List.size_toArray, hI.length]; omega) (fun q => nomatch q) (fun _ hb => nomatch hb) (fun _ hp => nomatch hp) ⟨rfl, rfl, .nil⟩ (by decide) rfl rfl ?_ ?_
  · rintro i v ys D C I oI m₄ news₄ gs h₄ tk₄ nn g₂ hi ⟨rfl, rfl, hz⟩ B hD hCn hne hl F₆ N₆
    have up := B.from F₁ (fun _ hb => nomatch hb)
    have X2 := X'.keeps up
    have T2 := T'.keeps up
    clear X' T' F₁ N₁
    have hil : i < zs.length := by
      have := (Array.getElem?_eq_some_iff.mp hi).1
      rw [List.size_toArray, hI.length] at this; exact this
    obtain ⟨t, ht⟩ := ints_at hI hil
    obtain rfl : v = .int (zs.getD i 0) t := by
      have : xs[i]? = some v := by simpa using hi
      rw [ht] at this
      exact (Option.some.inj this).symm
    k_steps
    (with_reducible rename Fr _ _ _ _ => F₇)
    refine ⟨_, [], _, _, _, rfl, F₇, N₆, hne, rfl, rfl, ?_⟩
    have e : (zs.map fun z => z.fmod 150).take (i + 1) = (zs.map fun z => z.fmod 150).take i ++ [(zs.getD i 0).fmod 150] := by
      rw [List.take_add_one, List.getElem?_map, List.getElem?_eq_getElem hil, List.getD_eq_getElem?_getD, List.getElem?_eq_getElem hil]; rfl
    rw [e]
    exact hz.append (.cons _ _ .nil)
  · rintro D C ys m₄ news₄ gs h₄ tk₄ nn g₂ ⟨rfl, rfl, hz⟩ hl B hD hCn hDC hne F₆ N₆
    obtain ⟨oC, F₇, N₇, hCs, hnC, hLC, hgC, hkk⟩ := comp_use F₁ (news_sub N₁ (fun p hp => .tail _ hp)) B hCn (fun q => nomatch q) (fun _ hb => nomatch hb) F₆ N₆ (fun _ _ q => nomatch q)
    refine compPost_use ?_
    k_steps
    (with_reducible rename News _ _ _ _ => N₈)
    (with_reducible rename Fr _ _ _ _ => F₈)
    refine ⟨_, hCs _ (N₈.get (.head _)), fun h₉ hs₉ => ?_⟩
    obtain ⟨F₉, N₉⟩ := use_out F₈ (fun p hp => N₈ p (.tail _ hp)) hnC hLC hgC hs₉
    intro htk₉
    clear N₈ F₈
    rw [List.cons_append, List.nil_append] at N₉
    replace hz : IntsAre ys (zs.map fun z => z.fmod 150) := by
      have hs : xs.toArray.size = (zs.map fun z => z.fmod 150).length := by rw [List.size_toArray, hI.length, List.length_map]
      rw [hs, List.take_length] at hz
      exact hz
    clear hI B hne hnC hCs hkk
    dsimp only
    (with_reducible refine wpAny_execs_cons ?_); (try dsimp only); refine wpAny_with_toks (Nat.le_refl _) ?_
    k_steps
    unfold Hold
    (with_reducible rename News _ _ _ _ => N₁₁)
    (with_reducible rename Fr _ _ _ _ => F₁₁)
    rename_i nl nv _ hnv hlt _ hle
    obtain ⟨nn, hnn, hnz⟩ := nums3 zs hzl
    rw [hnz] at hnv
    obtain ⟨_, _, _, _, _, b6, _⟩ := hlt
    refine wpAny_mono (law_words X' T' (by omega) (by omega) ho nl 0 nv om oM oh o77 o70 nn b6 dm dM dh hnn hnv v77 v70 g77 g70 C1 hL77 hL70 hL156 _ G _ (if_pos rfl) F₁₁ (news_sub N₁₁ ?_)) (fun _ _ y => y) fun _ _ y => y
    intro p hp
    simp only [List.mem_cons, List.not_mem_nil, or_false] at hp ⊢
    rcases hp with h | h | h | h | h | h | h <;> simp [h]
end Mine
end

end

end

open PySem PySem.W PyProof.Rows PySem.Calls PyProof.V
namespace Mine
theorem law_good {c : ClaimW} {cl : Str → Option Addr} {mean : ExcName → Option Value} {args : List WData} {s₁ s' : Shared} (hT : TabsAt [(160, 156), (81, 77), (74, 70)] s₁.heap) (P : LawPost (hideAll s₁.heap [70, 77, 156]) s₁.os (.ret (.bool true)) s')
    (hr : ∀ cls, c.raises args cls = false) (hp : c.post args (.bool true) args = true) : GoodWG c cl mean args s₁ (.ok (.ret (.bool true))) s' := by
  obtain ⟨_, hg, hos, hk, t77, t70, t156⟩ := P
  have one : ∀ q, q ∈ [((160 : Addr), (156 : Addr)), (81, 77), (74, 70)] → (∃ o, s'.heap.get? q.2 = some o ∧ TabIs o) → ∀ o, s₁.heap.get? q.2 = some o → asItWas s₁.heap s'.heap q.2 o := by
    rintro q hq ⟨o', ho', ps, _, _, rfl⟩ o e
    have e2 := (hT q hq).2
    rw [e] at e2
    obtain rfl : o = tabObj #[] := Option.some.inj e2
    exact .inr (.inl ⟨((hT q hq).1.tab (hT q hq).2).isCodeTable, rfl, #[], ps, rfl, by rw [Array.empty_append]; exact ho'⟩)
  refine ⟨.inl ⟨_, _, [], rfl, hr, ReadsW.bool true, hp, fun _ => ⟨List.nodup_nil, fun _ hm => nomatch hm⟩⟩, ⟨fun b o e => ?_, fun b o e => ?_⟩, hos, hg⟩
  · by_cases h1 : b = 70
    · subst h1; exact one (74, 70) (by simp) t70 o e
    by_cases h2 : b = 77
    · subst h2; exact one (81, 77) (by simp) t77 o e
    by_cases h3 : b = 156
    · subst h3; exact one (160, 156) (by simp) t156 o e
    exact .inl (hk b o (get_hide e (by simp [h1, h2, h3])))
  · by_cases h1 : b = 70
    · subst h1; obtain ⟨o', h', _⟩ := t70; exact ⟨o', h'⟩
    by_cases h2 : b = 77
    · subst h2; obtain ⟨o', h', _⟩ := t77; exact ⟨o', h'⟩
    by_cases h3 : b = 156
    · subst h3; obtain ⟨o', h', _⟩ := t156; exact ⟨o', h'⟩
    exact ⟨o, hk b o (get_hide e (by simp [h1, h2, h3]))⟩
theorem fa_is {K : Frag} {h : Heap} {mg : Str → Option Value} {n : Str} {a b : Addr} (X : K.In h) (G : h.Ns mainGlobals mg) (e : nsIn K mainGlobals n = some (some (.ref b))) (hm : mg n = some (.ref a)) : a = b := by
  have z := mg_of X G e
  rw [hm] at z
  injection z with z
  injection z
end Mine
open Mine
theorem PySem.Challenge.cw_re0035_01_holds : PySem.Challenge.rw_re0035_01.Holds := by
  refine holds_law law_said fun said => ?_
  refine holds_open (q := lawView) (loose := [Str.ofString "_Accumulator"]) (Xt := lawX) (XP := XL lawView []) (Yf := Hook.obs lawHook) (Ya := Hook.val lawHook) (YP := Hook.says lawHook) (N := 2228) law_left (Hook.of lawHook) (Hook.keeps lawHook) (fun s e => xl_of s (Bool.and_eq_true_iff.mp e).1) XL.keeps (by rfl) (by rfl) (by rfl) (fun s e => recFacts_of (Bool.and_eq_true_iff.mp e).2) (by rfl) said (by decide +kernel) ⟨rfl, rfl, rfl, rfl, rfl, by decide +kernel⟩ ?hw ?hc
  · w_witness2
  unfold lawHook
  k_fill
  intro w s₀ s₁ mg mb G Y fa o pm cd doc dV kV ho hdd hcd hD hmg hg args vals as hpre hlay hrd hwl hlo
  have KX := km_in_of Y
  have hT8 := km_tabs_of Y
  refine Ground.open G ?_
  intro T B D TE TW
  clear D
  have e178 : nsIn (Mine.hd.heap_1 w.params) mainGlobals (Str.ofString "law") = some (some (.ref 178)) := by kernel_rfl
  have hfa : fa = 178 := fa_is KX (Top.g T) e178 hmg
  subst hfa
  have hT : TabsAt [(160, 156), (81, 77), (74, 70)] s₁.heap := List.forall_mem_cons.mpr ⟨⟨codeHd_of_K (c := 160) (P := 156) KX (by kernel_rfl), hT8 156 (by simp)⟩, List.forall_mem_cons.mpr ⟨⟨codeHd_of_K (c := 81) (P := 77) KX (by kernel_rfl), hT8 77 (by simp)⟩, List.forall_mem_cons.mpr ⟨⟨codeHd_of_K (c := 74) (P := 70) KX (by kernel_rfl), hT8 70 (by simp)⟩, fun _ h => nomatch h⟩⟩⟩
  clear hmg
  wrow_args hpre hlay hrd hwl hlo
  rename IntsAre _ _ => hI
  rename Heap.IsList _ _ _ => hL
  have X' := ghost_K hT KX (by kernel_rfl)
  have T' := ghost_top hT T
  have hlen := hI.length
  refine law_c X' T' (fun b o e => of_hideAll _ e) (by decide) (by decide) _ _ _ (ghost_list hT hL) hI ?_ (ghost_code hT).1 ⟨#[], (hT (81, 77) (by simp)).1.code (hT (81, 77) (by simp)).2 trivial, (hT (81, 77) (by simp)).1.tab (hT (81, 77) (by simp)).2⟩ ⟨#[], (hT (74, 70) (by simp)).1.code (hT (74, 70) (by simp)).2 trivial, (hT (74, 70) (by simp)).1.tab (hT (74, 70) (by simp)).2⟩ (hT8 156 (by simp)) (hideAll_none _ (by simp)) (hideAll_none _ (by simp)) (hideAll_none _ (by simp)) (.of_eq hg) ?_
  · omega
  · intro s' P
    refine law_good hT P (fun _ => rfl) ?_
    first | rfl | wrow_post
