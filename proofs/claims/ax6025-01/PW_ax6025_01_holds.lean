import PyProof.Rows.All
import Wide.All
import OpenK.AllK
import Wide.FinOn
import PySem.Challenge.RW_ax6025_01
set_option Elab.async false
section
open PySem PySem.W PySem.Calls PyProof.Rows
set_option Elab.async false
set_option maxRecDepth 100000
set_option maxHeartbeats 4000000
namespace Mine
/-- the builtins that hold a bytearray while they stand in the stack -/
def dirtyIds : List String := ["bytearray.__contains__", "bytearray.__mod__", "bytearray.__rmod__", "_struct.pack_into.held", "bytearray.find.held"] ++ Builtin.Bytes.decodersThatHold
def clean : Code → Bool
  | .builtin id _ => !dirtyIds.contains id
  | _ => true
theorem clean_of {id : String} {args : Args} (h : dirtyIds.contains id = false) : clean (.builtin id args) = true := by show (!dirtyIds.contains id) = true; rw [h]; rfl
/-- the claim's caller stands below, and none that holds a bytearray -/
def UnderB (Γ : Ctx) : Prop := (∃ x ∈ Γ.below, ∃ a, x.1 = Code.builtin "claim.caller" a) ∧ ∀ x ∈ Γ.below, clean x.1 = true
def Under (Γ : Ctx) : Prop := UnderB Γ ∧ clean Γ.code = true
theorem Under.enter {Γ : Ctx} (h : Under Γ) (c : Code) (k : Option Value) (p : Pos) : UnderB (Γ.enter c k p) := by
  obtain ⟨⟨⟨x, hx, a, e⟩, hb⟩, hc⟩ := h
  refine ⟨⟨x, .tail _ hx, a, e⟩, fun y hy => ?_⟩
  rcases List.mem_cons.mp hy with rfl | hy
  · exact hc
  · exact hb y hy

section
variable {α β : Type} {M : Model} {A : Around} {E : Value → Shared → Prop} {s : Shared}
/-- at every context within A under the claim's caller -/
def wpC (M : Model) (A : Around) (t : Sem α) (Q : α → Shared → Prop) (E : Value → Shared → Prop) (s : Shared) : Prop :=
  ∀ Γ p, Γ.In A → Under Γ → Sem.wp M Γ t (fun a _ s' => Q a s') (fun e _ s' => E e s') p s
def codeC (M : Model) (A : Around) (c : Code) (R : Result → Shared → Prop) (s : Shared) : Prop :=
  ∀ Γ p, Γ.code = c → Γ.Below A → UnderB Γ → wpCode M Γ R p s
theorem wpC_of {t : Sem α} {Q : α → Shared → Prop} (h : wpAny M A t Q E s) : wpC M A t Q E s := fun Γ p hΓ _ => h Γ p hΓ
theorem codeC_of {c : Code} {R : Result → Shared → Prop} (h : codeAny M A c R s) : codeC M A c R s := fun Γ p hc hΓ _ => h Γ p hc hΓ
theorem wpC_mono {t : Sem α} {Q Q' : α → Shared → Prop} {E' : Value → Shared → Prop} (h : wpC M A t Q E s) (hQ : ∀ a s, Q a s → Q' a s) (hE : ∀ e s, E e s → E' e s) : wpC M A t Q' E' s :=
  fun Γ p hΓ hU => Sem.wp_mono M Γ t (fun a _ s => hQ a s) (fun e _ s => hE e s) p s (h Γ p hΓ hU)
theorem codeC_mono {c : Code} {R R' : Result → Shared → Prop} (h : codeC M A c R s) (hR : ∀ r s, R r s → R' r s) : codeC M A c R' s := fun Γ p hc hΓ hU => wpCode_mono hR (h Γ p hc hΓ hU)
theorem wpC_bind {m : Sem α} {f : α → Sem β} {Q : β → Shared → Prop} (h : wpC M A m (fun a s' => wpC M A (f a) Q E s') E s) : wpC M A (m >>= f) Q E s := fun Γ p hΓ hU => by
  rw [Sem.wp_bind']
  exact Sem.wp_mono M Γ m (fun a p' s' h' => h' Γ p' hΓ hU) (fun _ _ _ h' => h') p s (h Γ p hΓ hU)
theorem wpC_bindA {m : Sem α} {f : α → Sem β} {Q : β → Shared → Prop} (h : wpAny M A m (fun a s' => wpC M A (f a) Q E s') E s) : wpC M A (m >>= f) Q E s := wpC_bind (wpC_of h)
theorem wpC_pure {a : α} {Q : α → Shared → Prop} (h : Q a s) : wpC M A (pure a) Q E s := wpC_of (wpAny_pure h)
theorem wpC_onRaise {m : Sem α} {k : Value → Sem Unit} {Q : α → Shared → Prop} (h : wpC M A m Q (fun e s' => wpAny M A (k e) (fun _ s'' => E e s'') E s') s) : wpC M A (m.onRaise k) Q E s := fun Γ p hΓ hU => by
  rw [Sem.wp_onRaise]
  exact Sem.wp_mono M Γ m (fun _ _ _ h' => h') (fun e p' s' h' => h' Γ p' hΓ) p s (h Γ p hΓ hU)
theorem wpC_attempt {m : Sem α} {Q : Except Value α → Shared → Prop} (h : wpC M A m (fun a => Q (.ok a)) (fun e => Q (.error e)) s) : wpC M A m.attempt Q E s := fun Γ p hΓ hU => by rw [Sem.wp_attempt]; exact h Γ p hΓ hU
theorem wpC_holding {vs : List Value} {m : Sem α} {Q : α → Shared → Prop} (h : wpC M A m Q E s) : wpC M A (holding vs m) Q E s := fun Γ p hΓ hU => by rw [Sem.wp_holding]; exact h Γ p hΓ hU
theorem wpC_keep {vs : List Value} {m : Sem α} {Q : α → Shared → Prop} (h : wpC M A m Q E s) : wpC M A (m.keep vs) Q E s := fun Γ p hΓ hU => by rw [Sem.wp_keep]; exact h Γ p hΓ hU
theorem wpC_run {c : Code} {h : Option Value} {Q : Flow → Shared → Prop}
    (hc : codeC M (A.mark h) c (fun r s' => match r with | .ok f => Q f s' | .error e => E e s') s) (hnb : h ≠ some byPass := by intro x; cases x) : wpC M A (run c h) Q E s :=
  fun Γ p hΓ hU => by rw [Sem.wp_run]; exact hc _ p rfl (hΓ.enter c h p hnb) (hU.enter c h p)
theorem wpC_runValue {c : Code} {Q : Value → Shared → Prop} (hc : codeC M A c (fun r s' => match r with | .ok (.ret v) => Q v s' | .ok _ => False | .error e => E e s') s) : wpC M A (runValue c) Q E s :=
  fun Γ p hΓ hU => by rw [Sem.wp_runValue]; exact hc _ p rfl (hΓ.enter c none p (by intro x; cases x)) (hU.enter c none p)
theorem wpC_call {f : Value} {pos : List Value} {kw : List (Str × Value)} {Q : Value → Shared → Prop} (hc : codeC M A (.call f ⟨pos, kw⟩) (fun r s' => match r with | .ok (.ret v) => Q v s' | .ok _ => False | .error e => E e s') s) :
    wpC M A (call f pos kw) Q E s := wpC_runValue hc
theorem codeC_of_tree {c : Code} {R : Result → Shared → Prop}
    (h : wpC M (A.under c) (M.den c) (fun fin s' => match fin with | .done f => R (.ok f) s' | .again c' => c'.quiet = true ∧ codeC M A c' R s') (fun e s' => R (.error e) s') s) (hcl : clean c = true := by rfl) : codeC M A c R s := fun Γ p hc hΓ hU => by
  rw [wpCode_iff_wp, hc]
  refine Sem.wp_mono M Γ _ (fun fin p' s' h' => ?_) (fun _ _ _ h' => h') p s (h Γ p (hc ▸ hΓ.in) ⟨hU, by rw [hc]; exact hcl⟩)
  cases fin with
  | done f => exact h'
  | again c' => exact ⟨h'.1, h'.2 (Γ.goto c') p' rfl (hΓ.goto c') hU⟩
theorem wpC_stack {Q : List (Code × Pos) → Shared → Prop} (h : ∀ st : List (Code × Pos), (∃ x ∈ st, ∃ a, x.1 = Code.builtin "claim.caller" a) → (∀ x ∈ st, clean x.1 = true) → Q st s) : wpC M A stack Q E s := fun Γ p _ hU => by
  show Q ((Γ.code, p) :: Γ.below) s
  obtain ⟨⟨⟨x, hx, a, e⟩, hb⟩, hc⟩ := hU
  refine h _ ⟨x, .tail _ hx, a, e⟩ fun y hy => ?_
  rcases List.mem_cons.mp hy with rfl | hy
  · exact hc
  · exact hb y hy
theorem codeC_loop {c : Code} {R : Result → Shared → Prop} (hq : c.quiet = true) (I : Nat → Shared → Prop)
    (turn : ∀ n s, I n s → wpC M (A.under c) (M.den c) (fun fin s' => match fin with | .done f => R (.ok f) s' | .again c' => c' = c ∧ ∃ m, m < n ∧ I m s') (fun e s' => R (.error e) s') s)
    (n : Nat) (h : I n s) (hcl : clean c = true := by rfl) : codeC M A c R s := by
  induction n using Nat.strongRecOn generalizing s with
  | ind n ih =>
    refine codeC_of_tree (wpC_mono (turn n s h) (fun fin s' hf => ?_) fun _ _ h' => h') hcl
    cases fin with
    | done f => exact hf
    | again c' => obtain ⟨rfl, m, hm, hI⟩ := hf; exact ⟨hq, ih m hm hI⟩
end

section
variable {prog : Program} {w : World} {A : Around} {E : Value → Shared → Prop} {R : Result → Shared → Prop} {s : Shared} {env : Env}
theorem codeC_call_function {a : Addr} {args : Args} {o : Obj} {fd : FuncData} {body : List Stmt} (hroom : A.depth < recursionLimit) (ho : s.heap.get? a = some o)
    (hd' : o.data = .func fd) (hco : fd.scope.isCoroutine = false) (hgen : fd.scope.isGenerator = false) (hbody : fd.body = .stmts body) (hcd : s.heap.CodeRec fd.code fd.qualname)
    (h : wpAny (model prog w) A.in1 (bindArgs fd args) (fun binds s₁ =>
      wpAny (model prog w) A.in1 (newFunctionEnv fd.scope fd.globals fd.closure binds (fd.qualname ++ ".<locals>.") (some a) fd.code none fd.builtins)
        (fun env s₂ => s₂.heap.NoLimit ∧ codeC (model prog w) A (.func body env) R s₂) (fun e s' => R (.error e) s') s₁) (fun e s' => R (.error e) s') s) :
    codeC (model prog w) A (.call (.ref a) args) R s := by
  refine codeC_of_tree (wpC_of ?_)
  show wpAny _ A.in1 (callAny (.ref a) args) _ _ s
  simp only [callAny]
  refine wpAny_bind (wpAny_load ho ?_)
  obtain ⟨c, oc, vs, tq, hc, hoc, hdc, hq⟩ := hcd
  simp only [hd', callFunction, hco, hgen, hbody, hc]
  rw [hc] at h
  refine wpAny_bind (m := field (.ref c) 1) (wpAny_field hoc hdc hq (wpAny_bind (wpAny_pure ?_)))
  exact wpAny_bind (wpAny_mono h (fun binds s₁ h₁ => wpAny_bind (wpAny_mono h₁ (fun env s₂ h₂ => wpAny_bind (wpAny_enterFrame h₂.1 hroom
    (wpAny_pure (And.intro rfl h₂.2)))) fun _ _ h' => h')) fun _ _ h' => h')
theorem codeC_func {body : List Stmt}
    (h : wpC (model prog w) (A.deeper env) (execs body env) (fun f s' => R (.ok (.ret (match f with | .ret v => v | _ => .none))) s')
      (fun e s' => wpAny (model prog w) (A.deeper env) (leaving env e) (fun _ s'' => R (.error e) s'') (fun e' s'' => R (.error e') s'') s') s) : codeC (model prog w) A (.func body env) R s := by
  refine codeC_of_tree ?_
  show wpC _ (A.deeper env) (do point; match ← (execs body env).onRaise (leaving env) with | .ret v => ret v | _ => ret .none) _ _ s
  refine wpC_bindA (wpAny_point (wpC_bind (wpC_onRaise (wpC_mono h (fun f s' h' => ?_) fun _ _ h' => h'))))
  cases f <;> exact wpC_pure h'
theorem wpC_execs_cons {st : Stmt} {rest : List Stmt} {Q : Flow → Shared → Prop}
    (h : wpC (model prog w) A (exec st env) (fun f s' => match f with | .next => wpC (model prog w) A (execs rest env) Q E s' | f => Q f s') E s) : wpC (model prog w) A (execs (st :: rest) env) Q E s := by
  show wpC _ _ (do match ← exec st env with | .next => execs rest env | f => pure f) _ _ _
  refine wpC_bind (wpC_mono h (fun f s' h' => ?_) fun _ _ e => e)
  cases f <;> first | exact h' | exact wpC_pure h'
theorem execs_app (rest : List Stmt) : ∀ l : List Stmt, execs (l ++ rest) env = (execs l env >>= fun f => match f with | .next => execs rest env | f => pure f)
  | [] => by
    show execs rest env = ((pure Flow.next : Sem Flow) >>= _)
    rw [pure_bind]
  | st :: l => by
    show (exec st env >>= fun f => match f with | .next => execs (l ++ rest) env | f => pure f) = ((exec st env >>= fun f => match f with | .next => execs l env | f => pure f) >>= _)
    rw [bind_assoc]
    refine congrArg _ (funext fun f => ?_)
    cases f <;> first | exact execs_app rest l | exact (pure_bind _ _).symm
/-- the first statements without the caller, the rest with it -/
theorem wpC_execs_app {l rest : List Stmt} {Q : Flow → Shared → Prop} (h : wpAny (model prog w) A (execs l env) (fun f s' => match f with | .next => wpC (model prog w) A (execs rest env) Q E s' | f => Q f s') E s) :
    wpC (model prog w) A (execs (l ++ rest) env) Q E s := by
  rw [execs_app]
  refine wpC_bindA (wpAny_mono h (fun f s' h' => ?_) fun _ _ e => e)
  cases f <;> first | exact h' | exact wpC_pure h'
end
end Mine
end
section
open PySem PySem.W PySem.Calls PyProof.Rows
set_option Elab.async false
set_option maxRecDepth 100000
set_option maxHeartbeats 4000000
namespace Mine
abbrev atTop : Ctx := ⟨.builtin "claim.caller" {}, none, none, [], none⟩
/-- the claim's own thread: a global's call, under the caller -/
theorem thread_of_codeC {prog : Program} {w : World} {name : Str} {vs : List Value} {s : Shared} {m : Str → Option Value} {f : Value} {R : Result → Shared → Prop}
    (hg : s.heap.Ns mainGlobals m) (hf : m name = some f) (h : codeC (model prog w) callerA (.call f ⟨vs, []⟩) R s) (hret : ∀ fl s', R (.ok fl) s' → ∃ v, fl = .ret v) :
    Sem.wp (model prog w) atTop (do match ← nsGet mainNs name with
      | some f => do ret (← PySem.call f vs)
      | none => unsupported "claim.caller:no-such-global") (Sem.finPost (model prog w) atTop R) (fun e _ s' => R (.error e) s') default s := by
  rw [Sem.wp_bind']
  refine (wpAny_nsGet (A := callerA) (M := model prog w) (Q := fun a s' => a = some f ∧ s' = s) hg ⟨hf, rfl⟩) atTop default caller_in |> Sem.wp_mono _ _ _ (fun a p s' ha => ?_) (fun e _ s' he => he) _ _
  obtain ⟨rfl, rfl⟩ := ha
  show Sem.wp _ _ (PySem.call f vs >>= fun v => ret v) _ _ _ _
  rw [Sem.wp_bind']
  show Sem.wp _ _ (runValue (.call f ⟨vs, []⟩)) _ _ _ _
  rw [Sem.wp_runValue]
  refine wpCode_mono ?_ (h _ p rfl (caller_in.enter _ none p (by intro x; cases x)) ⟨⟨_, .head _, {}, rfl⟩, fun x hx => by rw [List.mem_singleton.mp hx]; exact clean_of (by decide +kernel)⟩)
  intro r s₂ hr
  cases r with
  | error e => exact hr
  | ok fl =>
    obtain ⟨v, rfl⟩ := hret _ _ hr
    exact hr
/-- a call of the claim from a laid state, out of a run at the caller's own context -/
theorem callFromC {c : ClaimW} {tree : List Value → Sem Fin} {w : World} {s : Shared} {free : Addr → Prop} {gens : Prop} {kept : Heap → Prop} (hz : s.asleep) (hgens : s.gens = #[])
    (hspec : ∀ args, c.pre args = true → WData.layableAll args = true → ∀ ord : List DictEntry → List DictEntry, (∀ l, (ord l).Perm l) →
      ∃ vs s₁, layAllW c.records (classAt s.heap) w.params ord args s = some (vs, s₁) ∧
        Sem.wp (model c.prog w) atTop (tree vs) (Sem.finPost (model c.prog w) atTop fun r s' => (c.Ends s args vs s₁ r s' ∧ s'.os = s.os ∧ kept s'.heap) ∧ leftWithCleanup s'.gens = false)
          (fun e _ s' => (c.Ends s args vs s₁ (.error e) s' ∧ s'.os = s.os ∧ kept s'.heap) ∧ leftWithCleanup s'.gens = false) default s₁) :
    c.CallFrom (fun vs => ⟨tree vs, .builtin "claim.caller" {}, default, []⟩) w free gens kept s := fun args hpre hlay ord hord => by
  obtain ⟨vs, s₁, hlaid, hrun⟩ := hspec args hpre hlay ord hord
  have hal := layAllW_rest _ _ _ hlaid
  obtain ⟨k, r, s', s'', hsched, hn, hfo, hends, hos, hkp⟩ := wp_halts_full (M := model c.prog w) (R := fun r s' => c.Ends s args vs s₁ r s' ∧ s'.os = s.os ∧ kept s'.heap) (Shared.asleep_of_life hal.2.2.2 hz) hrun
  obtain ⟨eh, _, _, eo, _⟩ := Shared.forget_eq hfo
  have hends := hends.congr eh
  rw [← eh] at hkp
  rw [← eo] at hos
  have hlife : s''.heap.life = s.heap.life := (runN_life _ _ _ hn).trans hal.2.2.2
  refine ⟨vs, s₁, hlaid, k, _, s'', hsched, ?_, (fun _ i x hx => by rw [hgens] at hx; simp at hx), hkp, by rw [hlife], Shared.rest_eq hos⟩
  rcases hends with ⟨v, rfl, d1, d2, d3, d4, d5⟩ | ⟨e, ob, cls, rfl, d1, d2, d3, d4, d5⟩
  · exact .inl ⟨v, rfl, d1, d2, d3, fun b o y _ => d4 b o y, d5⟩
  · exact .inr ⟨e, ob, cls, rfl, d1, d2, d3, d4, fun b o y _ => d5 b o y⟩

/-- what a call has to show, under the caller -/
abbrev WalkC (q : Program) (loose : List Str) (XP : (Str → Option Value) → Heap → Prop) (YP : World → Heap → Prop) (r : RowW) (d : DefRec) (kwd : List (Str × Expr)) : Prop :=
  ∀ (w : World) (s₀ s₁ : Shared) (mg mb : Str → Option Value), Ground q loose r.records XP w s₀ mg mb s₁.heap → YP w s₁.heap → ∀ (a : Addr) (o : Obj) (pm cd doc dV kV : Value), s₁.heap.get? a = some o →
    o.data = .func { docDef d.name d.params d.body d.scope pm cd doc with defaults := dV, kwdefaults := kV } → s₁.heap.CodeRec cd d.name → Dflts mg s₁.heap d.params kwd dV kV → mg d.name = some (.ref a) → s₁.gens = #[] →
    ∀ (args : List WData) (vals : List Value) (as : List Addr), r.claim.pre args = true → WData.layableAll args = true → ReadsAllW r.records (classAt s₀.heap) s₁.heap vals args as → WellAll w.params s₁.heap vals args → (∀ a ∈ as, (a == sysModules) = false) →
      codeC (model r.prog w) callerA (.call (.ref a) ⟨vals, []⟩) (fun res s' => GoodWG r.claim (classAt s₀.heap) (ExcName.means s₀.heap) args s₁ res s') s₁

theorem holdsC {r : OpenRow} {q : Program} {loose : List Str} {Xt : Shared → Bool} {XP : (Str → Option Value) → Heap → Prop} {α : Type} {Yf : Shared → α} {Ya : World → α} {YP : World → Heap → Prop} {d : DefRec} {kwd : List (Str × Expr)} {N : Nat}
    (left : LeftO r.prog q loose Xt Yf Ya N) (hY : ∀ w s, Yf s = Ya w → YP w s.heap) (hYk : ∀ w h h', YP w h → (∀ b o, h.get? b = some o → h'.get? b = some o) → YP w h')
    (hX : ∀ s, Xt s = true → XP (s.heap.nsMap mainGlobals) s.heap) (hXk : ∀ mg h h', XP mg h → (∀ b o, h.get? b = some o → h'.get? b = some o) → XP mg h')
    (hdef : defOf q r.name = some (d, kwd)) (hp : r.prog.theDef r.name = some (d.params, d.body, d.scope)) (hk : kwWritten? d.params.kwonlyargs d.params.kw_defaults = some kwd) (hRf : ∀ s, Xt s = true → RecFacts r.records s.heap) (hwr : (!r.writes || r.records.isEmpty) = true)
    (k1 : r.wellSaid = true) (ok : (chainsOk q && opensWell r.prog && (frees r.toRowW && r.within.isEmpty)) = true) (hb : r.prog.bare) (hw : r.toRowW.promised)
    (call : WalkC q loose XP YP r.toRowW d kwd) : r.Holds := by
  refine ⟨k1, hw, ?_⟩
  obtain ⟨ok, k5⟩ := Bool.and_eq_true_iff.mp ok
  obtain ⟨hch, o1⟩ := Bool.and_eq_true_iff.mp ok
  obtain ⟨k5, k6⟩ := Bool.and_eq_true_iff.mp k5
  obtain ⟨hsame, hu, ha, hap, hm⟩ := frees_parts k5
  refine ⟨⟨hb, o1, by show r.toRowW.makers.map _ = []; rw [hm]; rfl⟩, hw.witness, fun w => ⟨(left.behind hX hch w).1, fun s' hs' => ?_⟩⟩
  obtain ⟨s₀, hf, hg0, s, hT, hz, hgens, hg, G00, y⟩ := (left.behind (XP := fun mg h => XP mg h ∧ RecFacts r.records h) (fun s hs => ⟨hX s hs, hRf s hs⟩) hch w).2 s' hs'
  have G0 : Ground q loose [] XP w s (s.heap.nsMap mainGlobals) (s.heap.nsMap builtinsNs) s.heap := ⟨G00.T, G00.B, G00.D, G00.TE, G00.TD, G00.W, G00.X.1, G00.cls, G00.has, G00.apart, G00.once, G00.K⟩
  have RF := G00.X.2
  refine ⟨s₀, hf, hg0, s, hT, fun n hn => ?_, RF.1, RF.2.1, ?_⟩
  · obtain rfl : n = r.name := by split at hn <;> simp_all
    exact pinned_of_view hg G0 hdef hp hk
  have hgens : s.gens = #[] := Array.eq_empty_of_size_eq_zero (beq_iff_eq.mp hgens)
  have G : Ground q loose r.records XP w s _ _ s.heap := RF.ground G0
  refine callFromC (c := r.toRowW.claim) hz hgens fun args hpre hlay ord hord => ?_
  obtain ⟨⟨vs, s₁⟩, hlaid⟩ := Option.isSome_iff_exists.mp (layAllW_isSome (P := w.params) (ord := ord) G.has args r.args s (pre_splitW hpre).1)
  have keeps := layAllW_keeps _ _ _ hlaid
  have hal := layAllW_rest _ _ _ hlaid
  obtain ⟨as, hrd, hin, hold⟩ := reads_layAllW hord _ _ _ hlaid hlay s₁.heap (fun _ _ e => e)
  have L : Laid r.records w s s₁ args vs as := ⟨⟨ord, hord, hlaid⟩, hrd, hin, hold, keeps, hal.1.trans hgens, hal.2.2.1⟩
  have G₁ := G.keeps hXk keeps
  obtain ⟨a, o, pm, cd, doc, dV, kV, h1, h2, h3, h4, h5⟩ := G₁.fn hdef
  have hi := ident_freeW hu ha hap
  have hwi : r.toRowW.claim.within = [] := List.isEmpty_iff.mp k6
  have run := call w s s₁ _ _ G₁ (hYk _ _ _ (hY w s y) keeps) a o pm cd doc dV kV h2 h3 h4 h5 (defOf_name hdef ▸ h1) L.gens args vs as hpre hlay L.reads L.well (L.low G.low)
  refine ⟨vs, s₁, hlaid, thread_of_codeC G₁.T.g h1 (codeC_mono run fun res s' g => ?_) ?_⟩
  · have z := g.laid (c := r.toRowW.claim) hsame hwi hi L
    exact ⟨⟨z.1, z.2.1, fun q => ⟨namesKept_of hT hg _ keeps g.2.1.old, noTable hwr q⟩⟩, leftWithCleanup_false_of_bare z.2.2⟩
  · rintro fl s' ⟨⟨h, _⟩, _⟩
    rcases h with ⟨v, e, _⟩ | ⟨e, ob, cls, he, _⟩
    · exact ⟨v, by cases e; rfl⟩
    · cases he
end Mine
end
section
open PySem PySem.W PyProof.Rows
set_option Elab.async false
set_option maxRecDepth 100000
set_option maxHeartbeats 8000000
namespace Mine
open_top hd for PySem.Challenge.rw_ax6025_01
end Mine
end
section
open PySem PySem.W PySem.Calls PyProof.Rows
set_option Elab.async false
set_option maxRecDepth 100000
set_option maxHeartbeats 0
namespace Mine
def asF : List Addr := [2, 3, 6, 15, 17, 18, 20, 21, 22, 24, 25, 27, 28, 29, 31, 32, 34, 35, 36, 43, 45, 46, 48, 49, 50, 51, 52, 53, 56, 63,
  64, 65, 68, 70, 71, 73, 74, 75, 77, 78, 80, 81, 82, 85, 86, 87, 90, 91, 92, 94, 95, 97, 98, 99, 101, 102, 104, 105,
  106, 109, 110]
theorem asEq : ∀ P, asF = (hd.heap_39 P).map (·.1) := fun _ => by kernel_rfl
theorem left : LeftO Challenge.rw_ax6025_01.row.toRowW.prog hd.view_39 [] (fun s => xlAt hd.view_39 [] s && recOk (RowW.records Challenge.rw_ax6025_01.row.toRowW) s) (fun s => asF.map s.heap.get?) (fun w => (hd.heap_39 w.params).map fun p => some p.2) 1640 := by
  intro w
  kernel_rfl
end Mine
end
section
open PySem PySem.W PySem.Calls PyProof.Rows
set_option Elab.async false
set_option maxRecDepth 100000
set_option maxHeartbeats 8000000
namespace Mine
section
variable {prog : Program} {w : World} {A₀ A : Around} {s : Shared} {base h₀ : Heap} {L : Addr} {m : Str → Option Value} {env : Env} {news : List (Addr × Obj)} {K : Frag} {p : Program} {loose : List Str} {mean : ExcName → Option Value} {mg mb : Str → Option Value}
    {R : Result → Shared → Prop} {name qual : Str} {params : Arguments} {body : List Stmt} {scope : Scope} {dV kV doc pm cdv ct oc : Value} {an od : Option Addr} {osl : Array (Option Value)} {f : Addr} {args : Args} {binds : List (Str × Value)}

/-- a def whose body may catch, called from a frame of any make (one with cells too) right above the caller -/
theorem enterTry (B : Below A₀ base [] h₀) (F : Fr h₀ L s.heap m) (X₀ : K.In h₀) (N : News h₀ L s.heap news) (T : Top p loose mean mg mb h₀) (hA : A.frames = some [env]) (hf : env.frame = some L) (hke : env.scope.kind = .function)
    (ho : K.lookup f = some ⟨oc, od, .func (fnOf name qual params body scope dV kV doc pm an cdv ct), osl⟩) (hcd : codeIn K cdv qual = true) (hroom : A.depth < recursionLimit)
    (hbind : BindsTo s (fnOf name qual params body scope dV kV doc pm an cdv ct) args binds) (hloc : ∀ y ∈ binds, scope.names.lookup y.1 = some .local)
    (h : ∀ g L' h₁, Fr h₀ L g m → Fr g L' h₁ (fun y => binds.reverse.lookup y) → News g L' h₁ news → Below A base [env] g → K.In g → Top p loose mean mg mb g → KtsDicts ([env].filterMap (·.frame)) g →
      wpAny (model prog w) (A.deeper (envOf qual scope L' f cdv)) (execs body (envOf qual scope L' f cdv))
        (fun fl s' => LeaveS0 ([env].filterMap (·.frame)) h₀ L m g R (match fl with | .ret v => v | _ => .none) s')
        (fun e s' => wpAny (model prog w) (A.deeper (envOf qual scope L' f cdv)) (leaving (envOf qual scope L' f cdv) e) (fun _ s'' => R (.error e) s'') (fun e' s'' => R (.error e') s'') s')
        { s with heap := h₁, toks := s.toks + binds.length })
    (hco : scope.isCoroutine = false) (hgen : scope.isGenerator = false) (hk : scope.kind = .function)
    (hcell : ∀ x ∈ scope.names, x.2 ≠ .cell) : codeAny (model prog w) A (.call (.ref f) args) R s := by
  have X := X₀.keeps F.keep
  obtain ⟨FG, BG, st, _⟩ := groundX (R := R) B F N hA hf hke
  have efs : [env].filterMap (·.frame) = [L] := by simp [hf]
  obtain ⟨oL, es, ep, hLg, hLd, hLk, hLf⟩ := FG.ns
  have nL₀ : h₀.get? L = none := kts_self F
  refine codeAny_call_def (fd := fnOf name qual params body scope dV kV doc pm an cdv ct) (body := body) (binds := binds) hroom (X _ _ ho) rfl (T.nolimit.keeps F.keep) (codeRec_of X hcd) rfl hbind hcell hloc (fun h₁ hns hk₁ => ?_) hco hgen hk
  refine wpAny_mono (h _ s.heap.objs.size h₁ ⟨⟨oL, es, ep, hLg, hLd, hLk, hLf⟩, FG.keep, FG.above⟩ ⟨hns, fun b o e => hk₁ b o (of_hideAll _ e), Nat.le_of_eq (hideAll_size _ _)⟩
    (fun q hq => ⟨hk₁ _ _ (N q hq).1, Nat.ne_of_lt (Heap.lt_size (N q hq).1), hideAll_none _ (List.mem_map_of_mem hq)⟩) BG (X₀.keeps st) (T.keeps st) ?_) ?_ fun _ _ y => y
  · intro b hb
    rw [efs] at hb
    rw [List.mem_singleton.mp hb]
    exact ⟨oL, es, ep, hLg, hLd⟩
  · rintro fl s' ⟨g', L', m', news', T', F', N', k⟩
    rw [efs] at T'
    obtain ⟨sl, hs⟩ := T'.up hLg
    have old : ∀ b o, h₀.get? b = some o → g'.get? b = some o := fun b o e => T'.other b o (st b o e) fun q => by
      rw [List.mem_singleton.mp q, nL₀] at e
      cases e
    refine k ⟨⟨_, es, ep, F'.keep _ _ hs, hLd, hLk, hLf⟩, fun b o e => F'.keep b o (old b o e), F.above⟩ fun q hq => ⟨(N' q hq).1, fun z => ?_, ?_⟩
    · have := (N' q hq).2.2
      rw [z, hs] at this
      cases this
    · cases z : h₀.get? q.1 with
      | none => rfl
      | some o =>
        have := (N' q hq).2.2
        rw [old _ _ z] at this
        cases this
end
end Mine
end
section
open PySem PySem.W PySem.Calls PyProof.Rows
namespace Mine
/-- the law's def, out of the given text -/
def lawDef : Stmt := PySem.Challenge.pw_ax6025_01.main.body.getD 13 (.Pass default)
def lawStmts (k : Nat) : List Stmt := match lawDef with
  | .FunctionDef _ _ b _ _ _ _ _ _ _ => b.drop k
  | _ => []
def lawScope : Scope := match lawDef with
  | .FunctionDef _ _ _ _ _ _ sc _ _ _ => sc
  | _ => default
abbrev lawEnv (L a : Addr) (cd : Value) : Env := envOfC (Str.ofString "law") lawScope L a cd
end Mine
end
section
open PySem PySem.W PySem.Calls PyProof.Rows
namespace Mine
theorem ge_bool_int_0 (a : Bool) (b : Int) (u : Tok) : Gives (Builtin.«int.__ge__» ⟨[.bool a, .int b u], []⟩) (.val (Value.bool (decide ((if a = true then (1 : Int) else 0) ≥ b)))) :=
  .of_wp fun M A E s Q h => by obtain ⟨hp, g, d, tk, os⟩ := s; wp_walk; exact ⟨_, rfl, h⟩
theorem ge_bool_int {prog : Program} {w : World} {A : Around} {E : Value → Shared → Prop} {s : Shared} {a : Bool} {b : Int} {u : Tok} {Q : Value → Shared → Prop} (h : Q (.bool (decide ((if a = true then (1 : Int) else 0) ≥ b))) s) :
    wpAny (model prog w) A (compareOp .GtE (.bool a) (.int b u)) Q E s :=
  PySem.SeqAt.rc_left_or (op := .GtE) rfl (typeIs_int s b u) (by decide) F.sub_int_bool F.slot_bool_ge
    (call_gives F.slot_bool_ge rfl F.entry_int_ge (F.args_int_ge_2 _ _) (ge_bool_int_0 a b u) ⟨nofun, h⟩) (.inl rfl)
theorem News.drop1 {h₀ : Heap} {L : Addr} {h : Heap} {x : Addr × Obj} {l : List (Addr × Obj)} (N : News h₀ L h (x :: l)) : News h₀ L h l := fun q hq => N q (.tail _ hq)
end Mine
end
section
open PySem PySem.W PySem.Calls PyProof.Rows
namespace Mine
theorem News.cons_mem {h₀ : Heap} {L : Addr} {h : Heap} {x : Addr × Obj} {l : List (Addr × Obj)} (N : News h₀ L h l) (hx : x ∈ l) : News h₀ L h (x :: l) := fun q hq => (List.mem_cons.mp hq).elim (fun e => e ▸ N x hx) (N q)
theorem News.skip2 {h₀ : Heap} {L : Addr} {h : Heap} {x y : Addr × Obj} {l : List (Addr × Obj)} (N : News h₀ L h (x :: y :: l)) : News h₀ L h (x :: l) := fun q hq => (List.mem_cons.mp hq).elim (fun e => N q (e ▸ .head _)) (fun e => N q (.tail _ (.tail _ e)))
theorem fm_lo (i : Int) (k : Int) (hk : 0 < k) : 0 ≤ i.fmod k := Int.fmod_nonneg_of_pos i hk
theorem fm_hi (i : Int) (k : Int) (hk : 0 < k) : i.fmod k < k := Int.fmod_lt_of_pos i hk
end Mine
namespace Mine
open PySem PySem.W PySem.Calls PyProof.Rows
theorem News.sub {h₀ : Heap} {L : Addr} {h : Heap} {l l' : List (Addr × Obj)} (N : News h₀ L h l) (hs : List.Sublist l' l) : News h₀ L h l' := fun q hq => N q (hs.subset hq)
theorem fr_again {h₀ : Heap} {L : Addr} {h : Heap} {m : Str → Option Value} {k : Str} {v : Value} (F : Fr h₀ L h m) (e : m k = some v) : Fr h₀ L h (fun y => if y = k then some v else m y) := by
  have : (fun y => if y = k then some v else m y) = m := funext fun y => by
    by_cases h : y = k
    · rw [if_pos h, h, e]
    · rw [if_neg h]
  rw [this]; exact F
end Mine
namespace Mine
theorem take_row {w i j k : Int} (hw : 0 ≤ w) (h0 : w ≠ 0) (h1 : w ≠ 1) : 1 ≤ (List.take (w - 1).toNat [i.fmod 300, j.fmod 300, k.fmod 70000, 0]).length ∧ (List.take (w - 1).toNat [i.fmod 300, j.fmod 300, k.fmod 70000, 0]).length ≤ 4 ∧
    ∀ x ∈ List.take (w - 1).toNat [i.fmod 300, j.fmod 300, k.fmod 70000, 0], 0 ≤ x := by
  refine ⟨?_, ?_, fun x hx => ?_⟩
  · rw [List.length_take]
    show 1 ≤ min (w - 1).toNat 4
    omega
  · rw [List.length_take]; exact Nat.min_le_right _ _
  · have := List.mem_of_mem_take hx
    simp only [List.mem_cons, List.not_mem_nil, or_false] at this
    rcases this with rfl | rfl | rfl | rfl
    · exact fm_lo _ _ (by decide)
    · exact fm_lo _ _ (by decide)
    · exact fm_lo _ _ (by decide)
    · decide
end Mine
namespace Mine
open PyProof.Rows PyProof.V in
theorem take_row' {vs : List PySem.Value} {w i j k : Int} (_hI : IntsAre vs (List.take (w - 1).toNat [i.fmod 300, j.fmod 300, k.fmod 70000, 0])) (hw : 0 ≤ w) (h0 : w ≠ 0) (h1 : w ≠ 1) : 1 ≤ (List.take (w - 1).toNat [i.fmod 300, j.fmod 300, k.fmod 70000, 0]).length ∧ (List.take (w - 1).toNat [i.fmod 300, j.fmod 300, k.fmod 70000, 0]).length ≤ 4 ∧
    ∀ x ∈ List.take (w - 1).toNat [i.fmod 300, j.fmod 300, k.fmod 70000, 0], 0 ≤ x := take_row hw h0 h1
end Mine
end
section
open PySem PySem.W PySem.Calls PyProof.Rows
set_option Elab.async false
set_option maxRecDepth 100000
set_option maxHeartbeats 4000000
namespace Mine
theorem nsAt {h : Heap} {C : Addr} {m : Str → Option Value} (x : h.Ns C m) : ∃ o, h.get? C = some o ∧ ∀ g : Heap, g.get? C = some o → g.Ns C m :=
  let ⟨o, es, ep, ho, r⟩ := x
  ⟨o, ho, fun _ hg => ⟨o, es, ep, hg, r⟩⟩

section
variable {prog : Program} {w : World} {A : Around} {E : Value → Shared → Prop} {s : Shared} {env : Env} {h₀ : Heap} {L : Addr} {m : Str → Option Value}

/-- how one turn of a comprehension ends -/
def CEnd (h₀ : Heap) (L : Addr) (m : Str → Option Value) (D C : Addr) (k : Nat) (oC : Obj) (own : List (Addr × Obj)) (wr : List Addr) (ys : List Value) (Jn : List (Addr × Obj) → Prop) (s₁ s' : Shared) : Prop :=
  ∃ h' tk' news₂, s' = { s₁ with heap := h', toks := tk' } ∧ Fr h₀ L h' m ∧ News h₀ L h' ((C, oC) :: (D, listOf ys.toArray k) :: (news₂ ++ own)) ∧ (∀ p ∈ news₂, p.1 ≠ C ∧ p.1 ≠ D ∧ p.1 ∉ wr) ∧ Jn news₂
theorem CEnd.intro {D C : Addr} {k : Nat} {oC : Obj} {own news' : List (Addr × Obj)} {wr : List Addr} {ys : List Value} {Jn : List (Addr × Obj) → Prop} {s₁ : Shared} {h' : Heap} {tk' : Nat} (news₂ : List (Addr × Obj))
    (F : Fr h₀ L h' m) (N : News h₀ L h' news') (hs : ∀ p ∈ (C, oC) :: (D, listOf ys.toArray k) :: (news₂ ++ own), p ∈ news') (hn : ∀ p ∈ news₂, p.1 ≠ C ∧ p.1 ≠ D ∧ p.1 ∉ wr) (hj : Jn news₂) :
    CEnd h₀ L m D C k oC own wr ys Jn s₁ { s₁ with heap := h', toks := tk' } := ⟨h', tk', news₂, rfl, F, fun p hp => N p (hs p hp), hn, hj⟩

def CStep (prog : Program) (w : World) (A : Around) (env : Env) (h₀ : Heap) (L : Addr) (m : Str → Option Value) (scope : Scope) (cl : List (Str × Addr)) (x : Str) (ifs : List Expr) (elt : Expr) (wr : List Addr) (n : Nat) (P : Nat → Value → Prop)
    (J : Nat → List Value → List (Addr × Obj) → Prop) (s₂ : Shared) : Prop :=
  ∀ i v ys news₁ C D oC k h tk own E', i < n → P i v → J i ys news₁ → Fr h₀ L h m → News h₀ L h ((C, oC) :: (D, listOf ys.toArray k) :: (news₁ ++ own)) → (∀ g : Heap, g.get? C = some oC → ∃ mC, g.Ns C mC ∧ mC x = some v) →
    C ≠ D → (∀ b ∈ wr, b < C) → (∀ p ∈ news₁, p.1 ≠ C ∧ p.1 ≠ D ∧ p.1 ∉ wr) →
    wpAny (model prog w) A (forIn ifs true fun c r => if r = true then do let ok ← isTrue c (compEnvC scope cl C env) (eval c (compEnvC scope cl C env)); pure (ForInStep.yield ok) else pure (ForInStep.yield r))
      (fun ok s₃ => if ok = true then wpAny (model prog w) A (eval elt (compEnvC scope cl C env)) (fun y s₄ => CEnd h₀ L m D C k oC own wr ys (J (i + 1) (ys ++ [y])) { s₂ with heap := h, toks := tk } s₄) E' s₃
        else CEnd h₀ L m D C k oC own wr ys (J (i + 1) ys) { s₂ with heap := h, toks := tk } s₃) E' { s₂ with heap := h, toks := tk }

theorem compG {use : Option (Value → Sem Unit)} {elt iter : Expr} {x : Str} {px : Pos} {ifs : List Expr} {scope : Scope} {cl : List (Str × Addr)} {pos : Pos} {Q : Value → Shared → Prop}
    (hclos : closureFor scope env = pure cl) (hcell : ∀ y ∈ scope.names, y.2 ≠ .cell) (hkind : scope.kind = .function)
    (hnames : ∀ y ∈ scope.names, y.2 = .local → scope.names.lookup y.1 = some .local) (hx : scope.names.lookup x = some .local)
    (h : wpAny (model prog w) A (eval iter env) (fun xv s₁ => wpAny (model prog w) A (pyIter xv) (fun it s₂ => ∃ (I : Addr) (fp wr : List Addr) (n : Nat) (P : Nat → Value → Prop) (St : Nat → Heap → Prop) (news : List (Addr × Obj)) (J : Nat → List Value → List (Addr × Obj) → Prop),
      it = .ref I ∧ Walks prog w A I fp wr n P St ∧ n ≤ sizeLine ∧ St 0 s₂.heap ∧ (∀ b ∈ fp, b < s₂.heap.objs.size) ∧ L ∉ fp ∧ (∀ b ∈ wr, h₀.get? b = none) ∧ (∀ p ∈ news, p.1 ∉ wr) ∧ Fr h₀ L s₂.heap m ∧ News h₀ L s₂.heap news ∧ J 0 [] news ∧
      (∀ i ys nw, J i ys nw → ys.length ≤ i) ∧
      CStep prog w A env h₀ L m scope cl x ifs elt wr n P J s₂ ∧
      (∀ D C k ys news₁ h₂ tk mC, J n ys news₁ → Fr h₀ L h₂ m → News h₀ L h₂ ((D, listOf ys.toArray k) :: news₁) → h₂.Ns C mC → C ≠ D → L ≠ C → h₀.get? C = none → (∀ p ∈ news₁, p.1 ≠ C ∧ p.1 ≠ D) → compPost (model prog w) A E use Q (.ref D) C (.ok .next) { s₂ with heap := h₂, toks := tk })) E s₁) E s)
    (hs : ∀ x, foldedSetIterable iter env x = pure x := by intro _; rfl) :
    wpAny (model prog w) A (comprehension (.ListComp elt [⟨.Name x px, iter, ifs, 0⟩] scope pos) scope env (firstIterPos [⟨.Name x px, iter, ifs, 0⟩] pos) (newList []) false (eval iter env) use) Q E s := by
  refine wpAny_comprehension_free (use := use) rfl hs hclos hkind hnames (wpAny_mono h (fun xv s₁ h₁ => wpAny_mono h₁ (fun it s₂ h₂ => ?_) fun _ _ e => e) fun _ _ e => e)
  obtain ⟨I, fp, wr, n, P, St, news, J, rfl, W, hsz, hst, hfp, hLf, hwr, hnw, F, N, hJ, hlen, step, done⟩ := h₂
  refine wpAny_newObj_type (wpAny_newFunctionEnv hcell (by intro y hy; simp at hy) (fun h₁ hns₁ hsb₁ => ?_) hkind)
  dsimp only at hns₁ hsb₁ ⊢
  generalize hH2 : s₂.heap.push { cls := .type "list", dict := none, data := .seq ([] : List Value).toArray } = H2 at hns₁ hsb₁ ⊢
  have hC : H2.objs.size = s₂.heap.objs.size + 1 := by rw [← hH2, Heap.size_push]
  generalize hCd : H2.objs.size = C at hns₁ hsb₁ hC ⊢
  generalize hDd : s₂.heap.objs.size = D at hC ⊢
  have hC' : @Eq Nat C (D + 1) := hC
  have hCD : C ≠ D := neN (by omega)
  have hDfp : D ∉ fp := fun q => by have h9 : @LT.lt Nat _ D s₂.heap.objs.size := hfp _ q; rw [hDd] at h9; exact Nat.lt_irrefl _ h9
  have hCfp : C ∉ fp := fun q => by have h9 : @LT.lt Nat _ C s₂.heap.objs.size := hfp _ q; rw [hDd] at h9; omega
  have hwrC : ∀ b ∈ wr, b < C := fun b hb => by
    have h9 : @LT.lt Nat _ b s₂.heap.objs.size := hfp b (W.sub b hb)
    rw [hDd] at h9
    exact Nat.lt_trans h9 (by omega)
  have hDwr : D ∉ wr := fun q => hDfp (W.sub _ q)
  have hCwr : C ∉ wr := fun q => hCfp (W.sub _ q)
  have hLwr : L ∉ wr := fun q => hLf (W.sub _ q)
  have hLlt : @LT.lt Nat _ L D := hDd ▸ F.ns.lt
  have hLC : L ≠ C := neN (by omega)
  have hLD : L ≠ D := neN (by omega)
  have h0D : @LE.le Nat _ h₀.objs.size D := Nat.le_trans F.above (Nat.le_of_lt hLlt)
  have h0C : @LE.le Nat _ h₀.objs.size C := by omega
  have old0 : ∀ b o, h₀.get? b = some o → b ∉ wr := fun b o e hb => by rw [hwr b hb] at e; cases e
  have old : ∀ b o, s₂.heap.get? b = some o → h₁.get? b = some o := fun b o e => hsb₁.extBut b o (neN (by have h9 : @LT.lt Nat _ b s₂.heap.objs.size := Heap.lt_size e; rw [hDd] at h9; omega)) (Heap.get?_push_of_some _ (hH2 ▸ Heap.get?_push_of_some _ e))
  have hD₁ : h₁.get? D = some (listOf ([] : List Value).toArray 0) := hsb₁.extBut _ _ (Ne.symm hCD) (Heap.get?_push_of_some _ (hH2 ▸ hDd ▸ Heap.get?_push_size _ rfl))
  have F₁ : Fr h₀ L h₁ m := F.keeps old
  have N₁ : News h₀ L h₁ news := N.grown old
  obtain ⟨oC₀, hoC₀, hNsC₀⟩ := nsAt hns₁
  have hst₁ : St 0 h₁ := W.frame _ _ _ hst fun b _ o e => old b o e
  have nD : h₀.get? D = none := Heap.get?_none_of_le h0D
  have nC : h₀.get? C = none := Heap.get?_none_of_le h0C
  have hnews : ∀ p ∈ news, p.1 ≠ C ∧ p.1 ≠ D ∧ p.1 ∉ wr := fun p hp => by
    have h9 : @LT.lt Nat _ p.1 s₂.heap.objs.size := Heap.lt_size (N p hp).1
    rw [hDd] at h9
    exact ⟨neN (by omega), neN (by omega), hnw p hp⟩
  have loop : ∀ s₃ : Shared, s₃ = { s₂ with heap := h₁, toks := s₂.toks + ([] : List (Str × Value)).length } →
      codeAny (model prog w) A (.compLoop (.ListComp elt [⟨.Name x px, iter, ifs, 0⟩] scope pos) 0 (.ref I) (.ref D) (compEnvC scope cl C env)) (compPost (model prog w) A E use Q (.ref D) C) s₃ := by
    rintro s₃ rfl
    refine codeAny_compLoop_tests
      (fun kk s' => ∃ h' tk ys news₁ i k mC, s' = { s₂ with heap := h', toks := tk } ∧ St i h' ∧ Fr h₀ L h' m ∧ h'.get? D = some (listOf ys.toArray k) ∧ h'.Ns C mC ∧ News h₀ L h' news₁ ∧ (∀ p ∈ news₁, p.1 ≠ C ∧ p.1 ≠ D ∧ p.1 ∉ wr) ∧ J i ys news₁ ∧ i ≤ n ∧ kk = n + 1 - i) ?_ (n + 1)
      ⟨h₁, _, [], news, 0, 0, _, rfl, hst₁, F₁, hD₁, hns₁, N₁, hnews, hJ, Nat.zero_le _, rfl⟩
    rintro kk s' ⟨h', tk, ys, news₁, i, k, mC, rfl, hst', F', hD', hns', N', hnw', hJ', hi, rfl⟩
    have after : ∀ h₂ : Heap, (∀ b o, b ∉ wr → h'.get? b = some o → h₂.get? b = some o) → Fr h₀ L h₂ m ∧ News h₀ L h₂ news₁ ∧ h₂.get? D = some (listOf ys.toArray k) ∧ h₂.Ns C mC := fun h₂ hk =>
      ⟨⟨F'.ns.at' fun o e => hk _ o hLwr e, fun b o e => hk b o (old0 b o e) (F'.keep b o e), F'.above⟩, fun p hp => ⟨hk _ _ (hnw' p hp).2.2 (N' p hp).1, (N' p hp).2⟩, hk _ _ hDwr hD', hns'.at' fun o e => hk _ o hCwr e⟩
    by_cases hlt : i < n
    · refine W.item i _ _ _ hlt hst' fun v h₂ tk₂ hP hst₂ hk₂ => ?_
      obtain ⟨F₂, N₂, hD₂, hns₂⟩ := after h₂ hk₂
      refine wpAny_assign_Name (wpAny_storeName_local (lookup_relabel_local hx) hns₂ (fun h₃ hns₃ hs₃ => ?_) (by simp [compEnvC, relabel, hkind]))
      have up₃ : ∀ b o, b ≠ C → h₂.get? b = some o → h₃.get? b = some o := fun b o hb e => hs₃.extBut b o hb e
      have F₃ : Fr h₀ L h₃ m := ⟨F₂.ns.at' fun o e => up₃ _ o hLC e, fun b o e => up₃ b o (fun q => by rw [q, nC] at e; cases e) (F₂.keep b o e), F₂.above⟩
      have N₃ : News h₀ L h₃ news₁ := fun p hp => ⟨up₃ _ _ (hnw' p hp).1 (N₂ p hp).1, (N₂ p hp).2⟩
      have hD₃ := up₃ _ _ (Ne.symm hCD) hD₂
      obtain ⟨oC, hoC, hNsC⟩ := nsAt hns₃
      have Nown : News h₀ L h₃ (ownOf h₀ fp h₃) := news_ownOf hLf
      have hst₃ : St (i + 1) h₃ := W.frame _ _ _ hst₂ fun b hb o e => up₃ b o (fun q => hCfp (q ▸ hb)) e
      have Nall : News h₀ L h₃ ((C, oC) :: (D, listOf ys.toArray k) :: (news₁ ++ ownOf h₀ fp h₃)) := by
        intro p hp
        rcases List.mem_cons.mp hp with rfl | hp
        · exact ⟨hoC, Ne.symm hLC, nC⟩
        rcases List.mem_cons.mp hp with rfl | hp
        · exact ⟨hD₃, Ne.symm hLD, nD⟩
        rcases List.mem_append.mp hp with hp | hp
        · exact N₃ p hp
        · exact Nown p hp
      have keepSt : ∀ h₄ : Heap, Fr h₀ L h₄ m → News h₀ L h₄ (ownOf h₀ fp h₃) → ∀ h₅ : Heap, (∀ b o, b ≠ D → h₄.get? b = some o → h₅.get? b = some o) → St (i + 1) h₅ := fun h₄ F₄ N₄ h₅ hk => by
        refine W.frame _ _ _ hst₃ fun b hb o e => hk b o (fun q => hDfp (q ▸ hb)) ?_
        cases hn : h₀.get? b with
        | some o₀ =>
          have q := F₃.keep b o₀ hn
          rw [e] at q
          exact (Option.some.inj q) ▸ F₄.keep b o₀ hn
        | none => exact (N₄ _ (mem_ownOf hb hn e)).1
      refine wpAny_mono (step i v ys news₁ C D oC k h₃ _ (ownOf h₀ fp h₃) (notedBy (model prog w) A (compEnvC scope cl C env) fun e s' => compPost (model prog w) A E use Q (.ref D) C (.error e) s') hlt hP hJ' F₃ Nall (fun g hg => ⟨_, hNsC g hg, by simp⟩) hCD hwrC hnw') (fun ok s₄ h₄ => ?_) fun _ _ e => e
      cases ok with
      | false =>
        simp only [Bool.false_eq_true, if_false] at h₄ ⊢
        obtain ⟨h₅, tk₅, news₂, rfl, F₅, N₅, hnw₅, hJ₅⟩ := h₄
        refine ⟨n + 1 - (i + 1), by omega, h₅, tk₅, ys, news₂, i + 1, k, _, rfl, keepSt h₅ F₅ (fun p hp => N₅ p (.tail _ (.tail _ (List.mem_append_right _ hp)))) h₅ (fun _ _ _ e => e), F₅, (N₅ _ (.tail _ (.head _))).1, hNsC _ (N₅ _ (.head _)).1,
          (fun p hp => N₅ p (.tail _ (.tail _ (List.mem_append_left _ hp)))), hnw₅, hJ₅, hlt, rfl⟩
      | true =>
        simp only [if_true] at h₄ ⊢
        refine wpAny_mono h₄ (fun y s₅ h₅ => ?_) fun _ _ e => e
        obtain ⟨h₅, tk₅, news₂, rfl, F₅, N₅, hnw₅, hJ₅⟩ := h₅
        have hl : ys.length ≤ i := hlen _ _ _ hJ'
        refine wpAny_list_append_plain (items := ys.toArray) (hsz := by rw [List.size_toArray]; omega) ⟨k, (N₅ _ (.tail _ (.head _))).1⟩ fun h₆ hp₆ hs₆ => ?_
        obtain ⟨k₆, hk₆⟩ := hp₆
        have up₆ : ∀ b o, b ≠ D → h₅.get? b = some o → h₆.get? b = some o := fun b o hb e => hs₆.extBut b o hb e
        refine ⟨n + 1 - (i + 1), by omega, h₆, tk₅, ys ++ [y], news₂, i + 1, k₆, _, rfl, keepSt h₅ F₅ (fun p hp => N₅ p (.tail _ (.tail _ (List.mem_append_right _ hp)))) h₆ up₆,
          ⟨F₅.ns.at' fun o e => up₆ _ o hLD e, fun b o e => up₆ b o (fun q => by rw [q, nD] at e; cases e) (F₅.keep b o e), F₅.above⟩, (by rw [hk₆]; simp), hNsC _ (up₆ _ _ hCD (N₅ _ (.head _)).1),
          (fun p hp => ⟨up₆ _ _ (hnw₅ p hp).2.1 (N₅ p (.tail _ (.tail _ (List.mem_append_left _ hp)))).1, (N₅ p (.tail _ (.tail _ (List.mem_append_left _ hp)))).2⟩), hnw₅, hJ₅, hlt, rfl⟩
    · have hin : i = n := by omega
      subst hin
      refine W.done _ _ _ hst' fun h₂ tk₂ hk₂ => ?_
      obtain ⟨F₂, N₂, hD₂, hns₂⟩ := after h₂ hk₂
      refine done D C k ys news₁ h₂ tk₂ mC hJ' F₂ ?_ hns₂ hCD hLC nC fun p hp => ⟨(hnw' p hp).1, (hnw' p hp).2.1⟩
      intro p hp
      rcases List.mem_cons.mp hp with rfl | hp
      · exact ⟨hD₂, Ne.symm hLD, nD⟩
      · exact N₂ p hp
  exact codeAny_compStart_list (loop _ rfl) (W.self 0 _ _ _ hst₁ (loop _ rfl))
theorem compJ {elt iter : Expr} {x : Str} {px : Pos} {ifs : List Expr} {scope : Scope} {cl : List (Str × Addr)} {pos : Pos} {Q : Value → Shared → Prop}
    (hclos : closureFor scope env = pure cl) (hcell : ∀ y ∈ scope.names, y.2 ≠ .cell) (hkind : scope.kind = .function)
    (hnames : ∀ y ∈ scope.names, y.2 = .local → scope.names.lookup y.1 = some .local) (hx : scope.names.lookup x = some .local)
    (h : wpAny (model prog w) A (eval iter env) (fun xv s₁ => wpAny (model prog w) A (pyIter xv) (fun it s₂ => ∃ (I : Addr) (fp wr : List Addr) (n : Nat) (P : Nat → Value → Prop) (St : Nat → Heap → Prop) (news : List (Addr × Obj)) (J : Nat → List Value → List (Addr × Obj) → Prop),
      it = .ref I ∧ Walks prog w A I fp wr n P St ∧ n ≤ sizeLine ∧ St 0 s₂.heap ∧ (∀ b ∈ fp, b < s₂.heap.objs.size) ∧ L ∉ fp ∧ (∀ b ∈ wr, h₀.get? b = none) ∧ (∀ p ∈ news, p.1 ∉ wr) ∧ Fr h₀ L s₂.heap m ∧ News h₀ L s₂.heap news ∧ J 0 [] news ∧
      (∀ i ys nw, J i ys nw → ys.length ≤ i) ∧
      CStep prog w A env h₀ L m scope cl x ifs elt wr n P J s₂ ∧
      (∀ D k ys news₁ h' tk, J n ys news₁ → Fr h₀ L h' m → News h₀ L h' ((D, listOf ys.toArray k) :: news₁) → (∀ p ∈ news₁, p.1 ≠ D) → Q (.ref D) { s₂ with heap := h', toks := tk })) E s₁) E s)
    (hs : ∀ x, foldedSetIterable iter env x = pure x := by intro _; rfl) :
    wpAny (model prog w) A (eval (.ListComp elt [⟨.Name x px, iter, ifs, 0⟩] scope pos) env) Q E s := by
  rw [eval_ListComp]
  refine compG (use := none) (h₀ := h₀) (L := L) (m := m) hclos hcell hkind hnames hx (wpAny_mono h (fun xv s₁ h₁ => wpAny_mono h₁ (fun it s₂ h₂ => ?_) fun _ _ e => e) fun _ _ e => e) hs
  obtain ⟨I, fp, wr, n, P, St, news, J, e, W, hsz, hst, hfp, hLf, hwr, hnw, F, N, hJ, hlen, step, done⟩ := h₂
  refine ⟨I, fp, wr, n, P, St, news, J, e, W, hsz, hst, hfp, hLf, hwr, hnw, F, N, hJ, hlen, step, fun D C k ys news₁ h₂ tk mC hJ2 F₂ N₂ hns hCD hLC nC hne => ⟨mC, hns, fun h₃ hs₃ => ?_⟩⟩
  have up₃ : ∀ b o, b ≠ C → h₂.get? b = some o → h₃.get? b = some o := fun b o hb e => hs₃.extBut b o hb e
  refine done D k ys news₁ h₃ tk hJ2 ⟨F₂.ns.at' fun o e => up₃ _ o hLC e, fun b o e => up₃ b o (fun q => by rw [q, nC] at e; cases e) (F₂.keep b o e), F₂.above⟩ ?_ fun p hp => (hne p hp).2
  intro p hp
  rcases List.mem_cons.mp hp with rfl | hp
  · exact ⟨up₃ _ _ (Ne.symm hCD) (N₂ _ (.head _)).1, (N₂ _ (.head _)).2⟩
  · exact ⟨up₃ _ _ (hne p hp).1 (N₂ p (.tail _ hp)).1, (N₂ p (.tail _ hp)).2⟩
/-- y = [..]: the name is bound while the comprehension's frame still stands -/
theorem assignG {elt iter : Expr} {x y : Str} {px py : Pos} {ifs : List Expr} {scope : Scope} {cl : List (Str × Addr)} {pos spos : Pos} {Q : Flow → Shared → Prop}
    (hsw : swapsWith (.ListComp elt [⟨.Name x px, iter, ifs, 0⟩] scope pos) (some (.Name y py)) spos.line env = pure true) (hL : env.locals = L) (hy : env.kindOf y = some .local) (hp : (env.scope.kind == .class || (env.scope.kind == .module && env.locals != env.globals)) = false)
    (hclos : closureFor scope env = pure cl) (hcell : ∀ y ∈ scope.names, y.2 ≠ .cell) (hkind : scope.kind = .function)
    (hnames : ∀ y ∈ scope.names, y.2 = .local → scope.names.lookup y.1 = some .local) (hx : scope.names.lookup x = some .local)
    (h : wpAny (model prog w) A (eval iter env) (fun xv s₁ => wpAny (model prog w) A (pyIter xv) (fun it s₂ => ∃ (I : Addr) (fp wr : List Addr) (n : Nat) (P : Nat → Value → Prop) (St : Nat → Heap → Prop) (news : List (Addr × Obj)) (J : Nat → List Value → List (Addr × Obj) → Prop),
      it = .ref I ∧ Walks prog w A I fp wr n P St ∧ n ≤ sizeLine ∧ St 0 s₂.heap ∧ (∀ b ∈ fp, b < s₂.heap.objs.size) ∧ L ∉ fp ∧ (∀ b ∈ wr, h₀.get? b = none) ∧ (∀ p ∈ news, p.1 ∉ wr) ∧ Fr h₀ L s₂.heap m ∧ News h₀ L s₂.heap news ∧ J 0 [] news ∧
      (∀ i ys nw, J i ys nw → ys.length ≤ i) ∧
      CStep prog w A env h₀ L m scope cl x ifs elt wr n P J s₂ ∧
      (∀ D k ys news₁ h' tk, J n ys news₁ → Fr h₀ L h' (fun z => if z = y then some (.ref D) else m z) → News h₀ L h' ((D, listOf ys.toArray k) :: news₁) → (∀ p ∈ news₁, p.1 ≠ D) → Q .next { s₂ with heap := h', toks := tk })) E s₁) E s)
    (hs : ∀ x, foldedSetIterable iter env x = pure x := by intro _; rfl) :
    wpAny (model prog w) A (exec (.Assign [.Name y py] (.ListComp elt [⟨.Name x px, iter, ifs, 0⟩] scope pos) spos) env) Q E s := by
  subst hL
  rw [exec_Assign_Name_used y py _ spos hsw]
  refine wpAny_bind (wpAny_standAt (wpAny_bind ?_))
  show wpAny _ _ (comprehension _ scope env _ (newList []) false (eval iter env) (some (assign (.Name y py) env)) >>= fun _ => pure ()) _ _ _
  refine wpAny_bind (compG (use := some (assign (.Name y py) env)) (h₀ := h₀) (L := env.locals) (m := m) (Q := fun _ s' => wpAny (model prog w) A (pure ()) (fun _ s'' => wpAny (model prog w) A (pure Flow.next) Q E s'') E s') hclos hcell hkind hnames hx (wpAny_mono h (fun xv s₁ h₁ => wpAny_mono h₁ (fun it s₂ h₂ => ?_) fun _ _ e => e) fun _ _ e => e) hs)
  obtain ⟨I, fp, wr, n, P, St, news, J, e, W, hsz, hst, hfp, hLf, hwr, hnw, F, N, hJ, hlen, step, done⟩ := h₂
  refine ⟨I, fp, wr, n, P, St, news, J, e, W, hsz, hst, hfp, hLf, hwr, hnw, F, N, hJ, hlen, step, fun D C k ys news₁ h₂ tk mC hJ2 F₂ N₂ hns hCD hLC nC hne => ?_⟩
  show wpAny _ _ (assign (.Name y py) env (.ref D)) _ _ _
  refine wpAny_assign_Name (wpAny_storeName_local hy F₂.ns (fun h₃ hn₃ hs₃ => ?_) hp)
  have F₃ := F₂.set hn₃ hs₃
  have N₃ := N₂.set hs₃
  refine ⟨mC, hns.at' fun o e => (hs₃.2 C (Ne.symm hLC)).trans e, fun h₄ hs₄ => wpAny_pure (wpAny_pure ?_)⟩
  have up₄ : ∀ b o, b ≠ C → h₃.get? b = some o → h₄.get? b = some o := fun b o hb e => hs₄.extBut b o hb e
  refine done D k ys news₁ h₄ _ hJ2 ⟨F₃.ns.at' fun o e => up₄ _ o hLC e, fun b o e => up₄ b o (fun q => by rw [q, nC] at e; cases e) (F₃.keep b o e), F₃.above⟩ ?_ fun p hp => (hne p hp).2
  intro p hp
  rcases List.mem_cons.mp hp with rfl | hp
  · exact ⟨up₄ _ _ (Ne.symm hCD) (N₃ _ (.head _)).1, (N₃ _ (.head _)).2⟩
  · exact ⟨up₄ _ _ (hne p hp).1 (N₃ p (.tail _ hp)).1, (N₃ p (.tail _ hp)).2⟩
end
end Mine
end
section
open PySem PySem.W PySem.Calls PyProof.Rows
set_option Elab.async false
set_option maxRecDepth 100000
set_option maxHeartbeats 4000000
namespace Mine
section
variable {M : Model} {A : Around} {E : Value → Shared → Prop} {s : Shared} {env : Env}
theorem anyOperate {vs : List Value} {m : Sem Value} {Q : Value → Shared → Prop} (h : wpAny M A m Q E s) : wpAny M A (operate vs m) Q E s := fun Γ p hΓ => by
  rw [Sem.wp_operate]; exact h Γ p hΓ
theorem wpC_If {test body orelse pos} {Q : Flow → Shared → Prop}
    (h : wpC M A (isTrue test env (eval test env)) (fun b s₂ => if b then wpC M A (execs body env) Q E s₂ else wpC M A (execs orelse env) Q E s₂) E s) :
    wpC M A (exec (.If test body orelse pos) env) Q E s := by
  rw [exec_If]
  refine wpC_bindA (wpAny_standAt (wpC_bind (wpC_mono h (fun b s₂ h₂ => ?_) fun _ _ x => x)))
  cases b <;> exact h₂
theorem wpC_isTrue_Compare1 {l op r pos whole} {Q : Bool → Shared → Prop}
    (h : wpC M A (eval l env) (fun a s₁ => wpAny M A (eval r env) (fun b s₂ => wpAny M A (compareOp op a b) (fun c s₃ => wpAny M A (truthy c) Q E s₃) E s₂) E s₁) E s)
    (hm : behindInMarks op r = false := by with_unfolding_all rfl) : wpC M A (isTrue (.Compare l [op] [r] pos) env whole) Q E s := by
  simp only [isTrue_Compare1, markedBehindIn_of_false hm]
  refine wpC_bind (wpC_mono h (fun a s₁ h₁ => wpC_of ?_) fun _ _ x => x)
  exact wpAny_bind (wpAny_holding (wpAny_mono h₁ (fun b s₂ h₂ => wpAny_bind (wpAny_standAt (wpAny_bind (anyOperate (wpAny_mono h₂ (fun c s₃ h₃ => wpAny_holding h₃) fun _ _ x => x))))) fun _ _ x => x))
theorem wpC_eval_Compare1 {l op r pos} {Q : Value → Shared → Prop}
    (h : wpC M A (eval l env) (fun a s₁ => wpAny M A (eval r env) (fun b s₂ => wpAny M A (compareOp op a b) Q E s₂) E s₁) E s)
    (hm : behindInMarks op r = false := by with_unfolding_all rfl) : wpC M A (eval (.Compare l [op] [r] pos) env) Q E s := by
  have e : eval (.Compare l [op] [r] pos) env = (eval l env >>= fun a => compareChain pos a [op] (markedEach [op] [r] (evalEach [r] env))) := rfl
  rw [e]
  have e2 : ∀ a, compareChain pos a [op] (markedEach [op] [r] (evalEach [r] env)) = (holding [a] (markedBehindIn op r (eval r env)) >>= fun rv => standAt pos >>= fun _ => operate [a, rv] (compareOp op a rv)) := fun a => rfl
  refine wpC_bind (wpC_mono h (fun a s₁ h₁ => wpC_of ?_) fun _ _ x => x)
  rw [e2, markedBehindIn_of_false hm]
  exact wpAny_bind (wpAny_holding (wpAny_mono h₁ (fun b s₂ h₂ => wpAny_bind (wpAny_standAt (anyOperate h₂))) fun _ _ x => x))
theorem wpC_isTrue_Not {x : Expr} {pos : Pos} {whole : Sem Value} {Q : Bool → Shared → Prop} (h : wpC M A (isTrue x env (eval x env)) (fun b s₁ => Q (!b) s₁) E s) :
    wpC M A (isTrue (.UnaryOp .Not x pos) env whole) Q E s := by
  have e : isTrue (.UnaryOp .Not x pos) env whole = (isTrue x env (eval x env) >>= fun b => pure (!b)) := rfl
  rw [e]
  exact wpC_bind (wpC_mono h (fun b s₁ h₁ => wpC_pure h₁) fun _ _ x => x)
theorem wpC_isTrue_BoolOp {op : BoolOp} {values : List Expr} {pos : Pos} {whole : Sem Value} {Q : Bool → Shared → Prop} (h : wpC M A (allTrue op values env) Q E s) :
    wpC M A (isTrue (.BoolOp op values pos) env whole) Q E s := by
  have e : isTrue (.BoolOp op values pos) env whole = allTrue op values env := rfl
  rw [e]; exact h
theorem wpC_allTrue_And_cons {x : Expr} {rest : List Expr} {Q : Bool → Shared → Prop}
    (h : wpC M A (isTrue x env (eval x env)) (fun b s₁ => if b then wpC M A (allTrue .And rest env) Q E s₁ else Q false s₁) E s) : wpC M A (allTrue .And (x :: rest) env) Q E s := by
  show wpC M A (do match BoolOp.And, ← isTrue x env (eval x env) with | .And, false => pure false | .Or, true => pure true | _, _ => allTrue .And rest env) Q E s
  refine wpC_bind (wpC_mono h (fun b s₁ h₁ => ?_) fun _ _ x => x)
  cases b
  · exact wpC_pure h₁
  · exact h₁
theorem wpC_isTrue_value {e : Expr} {whole : Sem Value} {Q : Bool → Shared → Prop} (h : wpC M A whole (fun v s₁ => wpAny M A (truthy v) Q E s₁) E s)
    (he : isTrue e env whole = (do let v ← whole; standAt e.pos; holding [v] (truthy v)) := by rfl) : wpC M A (isTrue e env whole) Q E s := by
  rw [he]
  exact wpC_bind (wpC_mono h (fun v s₁ h₁ => wpC_of (wpAny_bind (wpAny_standAt (wpAny_holding h₁)))) fun _ _ x => x)
theorem wpC_spliced1 {x : Sem Value} {Q : List Value → Shared → Prop} (h : wpC M A x (fun v s₁ => Q [v] s₁) E s) : wpC M A (spliced [(false, x)]) Q E s := by
  rw [spliced]
  refine wpC_bind (wpC_mono h (fun v s₁ h₁ => wpC_of ?_) fun _ _ x => x)
  simp only [Bool.false_eq_true, if_false]
  exact wpAny_bind (wpAny_pure (wpAny_bind (wpAny_holding (spliced_nil (wpAny_pure h₁)))))
theorem wpC_List1 {e : Expr} {pos : Pos} {Q : Value → Shared → Prop} (hst : starEach [e] env = [(false, eval e env)])
    (h : wpC M A (eval e env) (fun v s₁ => Q (.ref s₁.heap.objs.size) { s₁ with heap := s₁.heap.push { cls := .type "list", data := .seq [v].toArray } }) E s) : wpC M A (eval (.List [e] pos) env) Q E s := by
  rw [arm_eval_List, hst]
  refine wpC_bindA (wpAny_standAt (wpC_bind (wpC_spliced1 (wpC_mono h (fun v s₁ h₁ => wpC_of (wpAny_newObj_type h₁ ?_)) fun _ _ x => x))))
  show ([v].toArray).size ≤ sizeLine
  rw [List.size_toArray]
  have : ∀ n, 1 ≤ n → [v].length ≤ n := fun n hn => hn
  exact this _ (by decide)
theorem wpC_Return {e : Expr} {pos : Pos} {Q : Flow → Shared → Prop} (h : wpC M A (eval e env) (fun v s₁ => Q (.ret v) s₁) E s) : wpC M A (exec (.Return (some e) pos) env) Q E s := by
  show wpC M A (standAt pos >>= fun _ => eval e env >>= fun v => pure (.ret v)) Q E s
  exact wpC_bindA (wpAny_standAt (wpC_bind (wpC_mono h (fun v s₁ h₁ => wpC_pure h₁) fun _ _ x => x)))
theorem wpC_Assign_Name {x pos' value pos} {Q : Flow → Shared → Prop}
    (h : wpC M A (eval value env) (fun v s₁ => wpAny M A (storeName env x v) (fun _ => Q .next) E s₁) E s)
    (hs : swapsWith value (some (.Name x pos')) pos.line env = pure false := by rfl) :
    wpC M A (exec (.Assign [.Name x pos'] value pos) env) Q E s := fun Γ p hΓ hU => by
  simp only [exec_Assign_Name env x pos' value pos hs, Sem.wp_bind', Sem.wp_cmd_standAt, Sem.wp_bindName, Sem.wp_pure']
  exact Sem.wp_mono M Γ _ (fun v _ s₁ h₁ => h₁ Γ _ hΓ) (fun _ _ _ h' => h') _ _ (h Γ _ hΓ hU)
theorem wpC_tryStmt_except {body orelse : Sem Flow} {h₀ : ExceptHandler} {hs : List ExceptHandler} {Q : Flow → Shared → Prop}
    (h : wpC M A body (fun f s₁ => match f with | .next => wpAny M A orelse Q E s₁ | f => Q f s₁)
      (fun e s₁ => wpAny M A (noteFrame e env) (fun _ s₂ => wpAny M A (setFlight e none) (fun _ s₃ => wpAny M A (handleBy e env (h₀ :: hs)) Q E s₃) E s₂) E s₁) s) :
    wpC M A (tryStmt false body (h₀ :: hs) orelse [] env) Q E s := by
  unfold tryStmt
  simp only [List.isEmpty_nil, if_true, List.isEmpty_cons, Bool.false_and, Bool.false_eq_true, if_false]
  refine wpC_bind (wpC_attempt (wpC_mono h (fun f s₁ h₁ => ?_) fun e s₁ h₁ => wpC_of ?_))
  · cases f <;> first | exact wpC_of h₁ | exact wpC_pure h₁
  · exact wpAny_bind (wpAny_mono h₁ (fun _ _ h₂ => wpAny_bind h₂) fun _ _ x => x)
theorem wpC_Try {body orelse : List Stmt} {h₀ : ExceptHandler} {hs : List ExceptHandler} {pos : Pos} {Q : Flow → Shared → Prop}
    (h : wpC M A (execs body env) (fun f s₁ => match f with | .next => wpAny M A (execs orelse env) Q E s₁ | f => Q f s₁)
      (fun e s₁ => wpAny M A (noteFrame e env) (fun _ s₂ => wpAny M A (setFlight e none) (fun _ s₃ => wpAny M A (handleBy e env (h₀ :: hs)) Q E s₃) E s₂) E s₁) s) :
    wpC M A (exec (.Try body (h₀ :: hs) orelse [] pos) env) Q E s := by
  show wpC M A (standAt pos >>= fun _ => tryStmt false (execs body env) (h₀ :: hs) (execs orelse env) [] env) Q E s
  exact wpC_bindA (wpAny_standAt (wpC_tryStmt_except h))
theorem wpC_callWith_function {pos : Pos} {a : Addr} {o : Obj} {fd : FuncData} {first : List Value} {args : List (Bool × Sem Value)} {Q : Value → Shared → Prop}
    (h : wpAny M A (evalArgs (.ref a) true args []) (fun x s₁ => (s₁.heap.get? a = some o ∧ o.data = .func fd) ∧ wpC M A (call (.ref a) (first ++ x.pos) x.kw) Q E s₁) E s) :
    wpC M A (callWith pos (.ref a) first args []) Q E s := by
  unfold callWith
  refine wpC_bindA (wpAny_holding (wpAny_mono h (fun x s₁ h₁ => wpC_bindA (wpAny_standAt ?_)) fun _ _ x => x))
  have tail : ∀ {t : Sem Value}, wpC M A t Q E s₁ → wpC M A (t >>= fun r => holding [r] point >>= fun _ => pure r) Q E s₁ :=
    fun ht => wpC_bind (wpC_mono ht (fun r s₂ hr => wpC_of (wpAny_bind (wpAny_holding (wpAny_point (wpAny_pure hr))))) fun _ _ x => x)
  have tk : ∀ {k : Value} {t : Sem Value}, wpC M A t Q E s₁ → True := fun _ => trivial
  cases hs : args.any (·.1) <;> simp only [List.any_nil, Bool.or_false] <;>
    refine wpC_bindA (m := keeperOf (.ref a)) ?_ <;> unfold keeperOf <;>
    refine wpAny_bind (wpAny_load h₁.1.1 ?_) <;> rw [h₁.1.2] <;> refine wpAny_pure ?_ <;> dsimp only
  all_goals first
    | exact tail (by unfold callMarked; exact wpC_keep h₁.2)
    | (split <;> first | exact tail h₁.2 | exact tail (by unfold callMarked; exact wpC_keep h₁.2))
    | trace_state
theorem wpC_callWith_type {pos : Pos} {T : String} {first : List Value} {x : Sem Value} {rest : List (Bool × Sem Value)} {Q : Value → Shared → Prop}
    (hplain : ((false, x) :: rest).any (·.1) = false)
    (h : wpAny M A (spliced ((false, x) :: rest)) (fun vs s₁ => wpC M A (call (.type T) (first ++ vs) []) Q E s₁) E s) :
    wpC M A (callWith pos (.type T) first ((false, x) :: rest) []) Q E s := by
  unfold callWith
  refine wpC_bindA (wpAny_holding (evalArgs_plain (wpAny_mono h (fun a s₁ h₁ => wpC_bindA (wpAny_standAt ?_)) fun _ _ x => x)))
  simp only [hplain, List.any_nil, Bool.or_false]
  refine wpC_bindA (wpAny_pure ?_)
  exact wpC_bind (wpC_mono h₁ (fun r s₂ hr => wpC_of (wpAny_bind (wpAny_holding (wpAny_point (wpAny_pure hr))))) fun _ _ x => x)
theorem wpC_Call_Name {f : Str} {fp pos : Pos} {args : List Expr} {Q : Value → Shared → Prop}
    (h : wpAny M A (eval (.Name f fp) env) (fun v s₁ => wpC M A (callWith pos v [] (backTo pos (starEach args env)) []) Q E s₁) E s) : wpC M A (eval (.Call (.Name f fp) args [] pos) env) Q E s := by
  show wpC M A (do callWith pos (← eval (.Name f fp) env) [] (backTo pos (starEach args env)) (backToKw pos (keywordEach [] env))) Q E s
  exact wpC_bindA h
end
end Mine
end
section
open PySem PySem.W PySem.Calls PyProof.Rows
set_option Elab.async false
set_option maxRecDepth 100000
set_option maxHeartbeats 4000000
namespace Mine
section
variable {M : Model} {A : Around} {E : Value → Shared → Prop} {s : Shared} {env : Env}
theorem wpC_noted {α : Type} {env : Env} {m : Sem α} {Q : α → Shared → Prop} (h : wpC M A m Q (notedBy M A env E) s) : wpC M A (m.onRaise fun x => do noteFrame x env; theTreesLotGoes x) Q E s :=
  wpC_onRaise (wpC_mono h (fun _ _ q => q) fun _ _ hx => wpAny_bind (wpAny_mono hx (fun _ _ e => wpAny_theTreesLotGoes e) fun _ _ e => e))
theorem wpC_notedAt {α : Type} {env : Env} {m : Sem α} {pos : Pos} {Q : α → Shared → Prop} (h : wpC M A m Q (notedBy M A env E) s) : wpC M A (m.onRaise fun x => do noteFrame x env; standAt pos) Q E s :=
  wpC_onRaise (wpC_mono h (fun _ _ q => q) fun _ _ hx => wpAny_bind (wpAny_mono hx (fun _ _ e => wpAny_standAt e) fun _ _ e => e))
theorem wpC_comprehension_free {e : Expr} {scope : Scope} {pos : Pos} {newAcc first : Sem Value} {g : Comprehension} {gs : List Comprehension} {cl : List (Str × Addr)}
    {Q : Value → Shared → Prop}
    (hcl : clausesOf e = g :: gs) (hs : ∀ x, foldedSetIterable g.iter env x = pure x) (hclos : closureFor scope env = pure cl)
    (hkind : scope.kind = .function) (hnames : ∀ x ∈ scope.names, x.2 = .local → scope.names.lookup x.1 = some .local)
    (h : wpAny M A first (fun x s₁ => wpAny M A (pyIter x) (fun it s₂ => wpAny M A newAcc (fun acc s₃ =>
      wpAny M A (newFunctionEnv scope env.globals cl [] env.qual none .none (some env)) (fun cenv s₄ =>
        codeC M A (.compStart e 0 it acc { cenv with scope := relabel scope env }) (compPost M A E none Q acc cenv.locals) s₄) E s₃) E s₂) E s₁) E s) :
    wpC M A (comprehension e scope env pos newAcc false first) Q E s := by
  unfold comprehension
  rw [hclos, hcl]
  refine wpC_bindA (wpAny_mono h (fun x s₁ h₁ => wpC_bindA (wpAny_standAt (wpC_bindA (wpAny_of_eq (hs x) (wpC_bindA (wpAny_holding (wpAny_mono h₁ (fun it s₂ h₂ => ?_)
      fun _ _ h' => h'))))))) fun _ _ h' => h')
  show wpC M A (newAcc >>= _) Q E s₂
  refine wpC_bindA (wpAny_mono h₂ (fun acc s₃ h₃ => wpC_bindA (wpAny_pure (wpC_bindA (wpAny_mono h₃ (fun cenv s₄ h₄ => ?_) fun _ _ h' => h')))) fun _ _ h' => h')
  dsimp only
  have hv : ∀ x ∈ (scope.names.filter fun x => (x.2 == .local || x.2 == .cell) && x.1 != (".0" : Str)).reverse, x.2 = .local →
      Env.kindOf { cenv with scope := relabel scope env } x.1 = some .local := fun x hx hl => lookup_relabel_local (hnames x (List.mem_filter.mp (List.mem_reverse.mp hx)).1 hl)
  refine wpC_holding (wpC_bind (wpC_attempt (wpC_holding (wpC_run (codeC_mono h₄ fun r s' hr => ?_)))))
  cases r with
  | ok f =>
    obtain ⟨m, hn, hr⟩ := hr
    exact wpC_of (wpAny_bind (wpAny_holding (wpAny_comp_letGo (cenv := { cenv with scope := relabel scope env }) hkind _ s' m hv hn fun h' m' _ hs' => wpAny_pure (hr h' hs'))))
  | error x =>
    obtain ⟨m, hn, hr⟩ := hr
    exact wpC_of (wpAny_bind (wpAny_holding (wpAny_comp_letGo (cenv := { cenv with scope := relabel scope env }) hkind _ s' m hv hn fun h' m' _ hs' => wpAny_mono (hr h' hs' _ rfl) (fun _ _ f => f.elim) fun _ _ y => y)))
end

section
variable {prog : Program} {w : World} {A : Around} {R : Result → Shared → Prop} {s : Shared}
theorem codeC_compStart_list {elt target iter ifs rest scope pos it acc env}
    (h0 : codeC (model prog w) A (.compLoop (.ListComp elt (⟨target, iter, ifs, 0⟩ :: rest) scope pos) 0 it acc env) R s)
    (h : wpAny (model prog w) A (pyIter it) (fun it' s' => codeC (model prog w) A (.compLoop (.ListComp elt (⟨target, iter, ifs, 0⟩ :: rest) scope pos) 0 it' acc env) R s')
      (notedBy (model prog w) A env fun x s' => R (.error x) s') s) :
    codeC (model prog w) A (.compStart (.ListComp elt (⟨target, iter, ifs, 0⟩ :: rest) scope pos) 0 it acc env) R s := by
  refine codeC_of_tree ?_
  show wpC _ _ ((compStart (.ListComp elt (⟨target, iter, ifs, 0⟩ :: rest) scope pos) 0 it acc env).onRaise (fun x => do noteFrame x env; standAt theWindowsPlace)) _ _ s
  refine wpC_notedAt (wpC_of ?_)
  unfold compStart
  show wpAny _ _ (ask >>= _) _ _ s
  refine wpAny_bind (wpAny_askSetting (wpAny_ite ?_))
  split
  · first
      | exact wpAny_bind (wpAny_pure (wpAny_pure (And.intro rfl h0)))
      | exact wpAny_pure (And.intro rfl h0)
  · first
      | exact wpAny_bind (wpAny_rule (wpAny_bind (wpAny_standAt (wpAny_bind (wpAny_mono h (fun it' s' h' => wpAny_pure (And.intro rfl h')) fun _ _ x => x)))))
      | (refine wpAny_bind (wpAny_rule ?_); show wpAny _ _ (standAt iter.pos >>= _) _ _ s; exact wpAny_bind (wpAny_standAt (wpAny_bind (wpAny_mono h (fun it' s' h' => wpAny_pure (And.intro rfl h')) fun _ _ x => x))))
theorem codeC_compLoop1 {elt target iter : Expr} {scope : Scope} {pos : Pos} {it acc : Value} {env : Env} (I : Nat → Shared → Prop)
    (turn : ∀ n s, I n s → wpAny (model prog w) A (pyNext it) (fun r s₁ => match r with
      | none => R (.ok .next) s₁
      | some v => wpAny (model prog w) A (assign target env v) (fun _ s₂ =>
            wpC (model prog w) A (eval elt env) (fun x s₄ =>
              wpAny (model prog w) A (call (.builtin "list.append") [acc, x]) (fun _ s₅ => ∃ m, m < n ∧ I m s₅) (notedBy (model prog w) A env fun e s' => R (.error e) s') s₄) (notedBy (model prog w) A env fun e s' => R (.error e) s') s₂)
           (notedBy (model prog w) A env fun e s' => R (.error e) s') s₁) (notedBy (model prog w) A env fun e s' => R (.error e) s') s)
    (n : Nat) (h : I n s) (ht : ∀ v, letOwnedTupleGo target it v = pure () := by intro _; rfl) :
    codeC (model prog w) A (.compLoop (.ListComp elt [⟨target, iter, [], 0⟩] scope pos) 0 it acc env) R s := by
  refine codeC_loop rfl I (fun n s hI => ?_) n h
  show wpC _ A ((compTurn (.ListComp elt [⟨target, iter, [], 0⟩] scope pos) 0 it acc env).onRaise (fun x => do noteFrame x env; theTreesLotGoes x)) _ _ s
  refine wpC_noted ?_
  rw [compTurn_list1]
  refine wpC_bindA (wpAny_standAt (wpC_bindA (wpAny_mono (turn n s hI) (fun r s₁ h₁ => ?_) fun _ _ h' => h')))
  cases r with
  | none => exact wpC_pure h₁
  | some v =>
    refine wpC_bindA (wpAny_of_eq (ht v) ?_)
    refine wpC_bindA (wpAny_mono h₁ (fun _ s₂ h₂ => ?_) fun _ _ h' => h')
    exact wpC_bind (wpC_bind (wpC_mono h₂ (fun x s₄ h₄ => wpC_of (wpAny_bind (wpAny_mono h₄ (fun _ s₅ h₅ => wpAny_pure (wpC_pure ⟨rfl, h₅⟩)) fun _ _ h' => h'))) fun _ _ h' => h'))
end

section
variable {prog : Program} {w : World} {A : Around} {E : Value → Shared → Prop} {s : Shared} {env : Env} {h₀ : Heap} {L : Addr} {m : Str → Option Value}
def CStepC (prog : Program) (w : World) (A : Around) (env : Env) (h₀ : Heap) (L : Addr) (m : Str → Option Value) (scope : Scope) (cl : List (Str × Addr)) (x : Str) (elt : Expr) (wr : List Addr) (n : Nat) (P : Nat → Value → Prop)
    (J : Nat → List Value → List (Addr × Obj) → Prop) (s₂ : Shared) : Prop :=
  ∀ i v ys news₁ C D oC own k h tk E', i < n → P i v → J i ys news₁ → Fr h₀ L h m → News h₀ L h ((C, oC) :: (D, listOf ys.toArray k) :: (news₁ ++ own)) → (∀ g : Heap, g.get? C = some oC → ∃ mC, g.Ns C mC ∧ mC x = some v) →
    C ≠ D → (∀ p ∈ news₁, p.1 ≠ C ∧ p.1 ≠ D ∧ p.1 ∉ wr) →
    wpC (model prog w) A (eval elt (compEnvC scope cl C env)) (fun y s₄ => CEnd h₀ L m D C k oC own wr ys (J (i + 1) (ys ++ [y])) { s₂ with heap := h, toks := tk } s₄) E' { s₂ with heap := h, toks := tk }

theorem compC {elt iter : Expr} {x : Str} {px : Pos} {scope : Scope} {cl : List (Str × Addr)} {pos : Pos} {Q : Value → Shared → Prop}
    (hclos : closureFor scope env = pure cl) (hcell : ∀ y ∈ scope.names, y.2 ≠ .cell) (hkind : scope.kind = .function)
    (hnames : ∀ y ∈ scope.names, y.2 = .local → scope.names.lookup y.1 = some .local) (hx : scope.names.lookup x = some .local)
    (h : wpAny (model prog w) A (eval iter env) (fun xv s₁ => wpAny (model prog w) A (pyIter xv) (fun it s₂ => ∃ (I : Addr) (fp wr : List Addr) (n : Nat) (P : Nat → Value → Prop) (St : Nat → Heap → Prop) (news : List (Addr × Obj)) (J : Nat → List Value → List (Addr × Obj) → Prop),
      it = .ref I ∧ Walks prog w A I fp wr n P St ∧ n ≤ sizeLine ∧ St 0 s₂.heap ∧ (∀ b ∈ fp, b < s₂.heap.objs.size) ∧ L ∉ fp ∧ (∀ b ∈ wr, h₀.get? b = none) ∧ (∀ p ∈ news, p.1 ∉ wr) ∧ Fr h₀ L s₂.heap m ∧ News h₀ L s₂.heap news ∧ J 0 [] news ∧
      (∀ i ys nw, J i ys nw → ys.length ≤ i) ∧
      CStepC prog w A env h₀ L m scope cl x elt wr n P J s₂ ∧
      (∀ D k ys news₁ h' tk, J n ys news₁ → Fr h₀ L h' m → News h₀ L h' ((D, listOf ys.toArray k) :: news₁) → (∀ p ∈ news₁, p.1 ≠ D) → Q (.ref D) { s₂ with heap := h', toks := tk })) E s₁) E s)
    (hs : ∀ x, foldedSetIterable iter env x = pure x := by intro _; rfl) :
    wpC (model prog w) A (eval (.ListComp elt [⟨.Name x px, iter, [], 0⟩] scope pos) env) Q E s := by
  rw [eval_ListComp]
  refine wpC_comprehension_free rfl hs hclos hkind hnames (wpAny_mono h (fun xv s₁ h₁ => wpAny_mono h₁ (fun it s₂ h₂ => ?_) fun _ _ e => e) fun _ _ e => e)
  obtain ⟨I, fp, wr, n, P, St, news, J, rfl, W, hsz, hst, hfp, hLf, hwr, hnw, F, N, hJ, hlen, step, done⟩ := h₂
  refine wpAny_newObj_type (wpAny_newFunctionEnv hcell (by intro y hy; simp at hy) (fun h₁ hns₁ hsb₁ => ?_) hkind)
  dsimp only at hns₁ hsb₁ ⊢
  generalize hH2 : s₂.heap.push { cls := .type "list", dict := none, data := .seq ([] : List Value).toArray } = H2 at hns₁ hsb₁ ⊢
  have hC : H2.objs.size = s₂.heap.objs.size + 1 := by rw [← hH2, Heap.size_push]
  generalize hCd : H2.objs.size = C at hns₁ hsb₁ hC ⊢
  generalize hDd : s₂.heap.objs.size = D at hC ⊢
  have hC' : @Eq Nat C (D + 1) := hC
  have hCD : C ≠ D := neN (by omega)
  have hDfp : D ∉ fp := fun q => by have h9 : @LT.lt Nat _ D s₂.heap.objs.size := hfp _ q; rw [hDd] at h9; exact Nat.lt_irrefl _ h9
  have hCfp : C ∉ fp := fun q => by have h9 : @LT.lt Nat _ C s₂.heap.objs.size := hfp _ q; rw [hDd] at h9; omega
  have hDwr : D ∉ wr := fun q => hDfp (W.sub _ q)
  have hCwr : C ∉ wr := fun q => hCfp (W.sub _ q)
  have hLwr : L ∉ wr := fun q => hLf (W.sub _ q)
  have hLlt : @LT.lt Nat _ L D := hDd ▸ F.ns.lt
  have hLC : L ≠ C := neN (by omega)
  have hLD : L ≠ D := neN (by omega)
  have h0D : @LE.le Nat _ h₀.objs.size D := Nat.le_trans F.above (Nat.le_of_lt hLlt)
  have h0C : @LE.le Nat _ h₀.objs.size C := by omega
  have old0 : ∀ b o, h₀.get? b = some o → b ∉ wr := fun b o e hb => by rw [hwr b hb] at e; cases e
  have old : ∀ b o, s₂.heap.get? b = some o → h₁.get? b = some o := fun b o e => hsb₁.extBut b o (neN (by have h9 : @LT.lt Nat _ b s₂.heap.objs.size := Heap.lt_size e; rw [hDd] at h9; omega)) (Heap.get?_push_of_some _ (hH2 ▸ Heap.get?_push_of_some _ e))
  have hD₁ : h₁.get? D = some (listOf ([] : List Value).toArray 0) := hsb₁.extBut _ _ (Ne.symm hCD) (Heap.get?_push_of_some _ (hH2 ▸ hDd ▸ Heap.get?_push_size _ rfl))
  have F₁ : Fr h₀ L h₁ m := F.keeps old
  have N₁ : News h₀ L h₁ news := N.grown old
  obtain ⟨oC₀, hoC₀, hNsC₀⟩ := nsAt hns₁
  have hst₁ : St 0 h₁ := W.frame _ _ _ hst fun b _ o e => old b o e
  have nD : h₀.get? D = none := Heap.get?_none_of_le h0D
  have nC : h₀.get? C = none := Heap.get?_none_of_le h0C
  have hnews : ∀ p ∈ news, p.1 ≠ C ∧ p.1 ≠ D ∧ p.1 ∉ wr := fun p hp => by
    have h9 : @LT.lt Nat _ p.1 s₂.heap.objs.size := Heap.lt_size (N p hp).1
    rw [hDd] at h9
    exact ⟨neN (by omega), neN (by omega), hnw p hp⟩
  have loop : ∀ s₃ : Shared, s₃ = { s₂ with heap := h₁, toks := s₂.toks + ([] : List (Str × Value)).length } →
      codeC (model prog w) A (.compLoop (.ListComp elt [⟨.Name x px, iter, [], 0⟩] scope pos) 0 (.ref I) (.ref D) (compEnvC scope cl C env)) (compPost (model prog w) A E none Q (.ref D) C) s₃ := by
    rintro s₃ rfl
    refine codeC_compLoop1
      (fun kk s' => ∃ h' tk ys news₁ i k mC, s' = { s₂ with heap := h', toks := tk } ∧ St i h' ∧ Fr h₀ L h' m ∧ h'.get? D = some (listOf ys.toArray k) ∧ h'.Ns C mC ∧ News h₀ L h' news₁ ∧ (∀ p ∈ news₁, p.1 ≠ C ∧ p.1 ≠ D ∧ p.1 ∉ wr) ∧ J i ys news₁ ∧ i ≤ n ∧ kk = n + 1 - i) ?_ (n + 1)
      ⟨h₁, _, [], news, 0, 0, _, rfl, hst₁, F₁, hD₁, hns₁, N₁, hnews, hJ, Nat.zero_le _, rfl⟩
    rintro kk s' ⟨h', tk, ys, news₁, i, k, mC, rfl, hst', F', hD', hns', N', hnw', hJ', hi, rfl⟩
    have after : ∀ h₂ : Heap, (∀ b o, b ∉ wr → h'.get? b = some o → h₂.get? b = some o) → Fr h₀ L h₂ m ∧ News h₀ L h₂ news₁ ∧ h₂.get? D = some (listOf ys.toArray k) ∧ h₂.Ns C mC := fun h₂ hk =>
      ⟨⟨F'.ns.at' fun o e => hk _ o hLwr e, fun b o e => hk b o (old0 b o e) (F'.keep b o e), F'.above⟩, fun p hp => ⟨hk _ _ (hnw' p hp).2.2 (N' p hp).1, (N' p hp).2⟩, hk _ _ hDwr hD', hns'.at' fun o e => hk _ o hCwr e⟩
    by_cases hlt : i < n
    · refine W.item i _ _ _ hlt hst' fun v h₂ tk₂ hP hst₂ hk₂ => ?_
      obtain ⟨F₂, N₂, hD₂, hns₂⟩ := after h₂ hk₂
      refine wpAny_assign_Name (wpAny_storeName_local (lookup_relabel_local hx) hns₂ (fun h₃ hns₃ hs₃ => ?_) (by simp [compEnvC, relabel, hkind]))
      have up₃ : ∀ b o, b ≠ C → h₂.get? b = some o → h₃.get? b = some o := fun b o hb e => hs₃.extBut b o hb e
      have F₃ : Fr h₀ L h₃ m := ⟨F₂.ns.at' fun o e => up₃ _ o hLC e, fun b o e => up₃ b o (fun q => by rw [q, nC] at e; cases e) (F₂.keep b o e), F₂.above⟩
      have N₃ : News h₀ L h₃ news₁ := fun p hp => ⟨up₃ _ _ (hnw' p hp).1 (N₂ p hp).1, (N₂ p hp).2⟩
      have hD₃ := up₃ _ _ (Ne.symm hCD) hD₂
      obtain ⟨oC, hoC, hNsC⟩ := nsAt hns₃
      have Nown : News h₀ L h₃ (ownOf h₀ fp h₃) := news_ownOf hLf
      have hst₃ : St (i + 1) h₃ := W.frame _ _ _ hst₂ fun b hb o e => up₃ b o (fun q => hCfp (q ▸ hb)) e
      have Nall : News h₀ L h₃ ((C, oC) :: (D, listOf ys.toArray k) :: (news₁ ++ ownOf h₀ fp h₃)) := by
        intro p hp
        rcases List.mem_cons.mp hp with rfl | hp
        · exact ⟨hoC, Ne.symm hLC, nC⟩
        rcases List.mem_cons.mp hp with rfl | hp
        · exact ⟨hD₃, Ne.symm hLD, nD⟩
        rcases List.mem_append.mp hp with hp | hp
        · exact N₃ p hp
        · exact Nown p hp
      have keepSt : ∀ h₄ : Heap, Fr h₀ L h₄ m → News h₀ L h₄ (ownOf h₀ fp h₃) → ∀ h₅ : Heap, (∀ b o, b ≠ D → h₄.get? b = some o → h₅.get? b = some o) → St (i + 1) h₅ := fun h₄ F₄ N₄ h₅ hk => by
        refine W.frame _ _ _ hst₃ fun b hb o e => hk b o (fun q => hDfp (q ▸ hb)) ?_
        cases hn : h₀.get? b with
        | some o₀ =>
          have q := F₃.keep b o₀ hn
          rw [e] at q
          exact (Option.some.inj q) ▸ F₄.keep b o₀ hn
        | none => exact (N₄ _ (mem_ownOf hb hn e)).1
      refine wpC_mono (step i v ys news₁ C D oC (PyProof.Rows.ownOf h₀ fp h₃) k h₃ _ (notedBy (model prog w) A (compEnvC scope cl C env) fun e s' => compPost (model prog w) A E none Q (.ref D) C (.error e) s') hlt hP hJ' F₃ Nall (fun g hg => ⟨_, hNsC g hg, by simp⟩) hCD hnw') (fun y s₅ h₅ => ?_) fun _ _ e => e
      obtain ⟨h₅, tk₅, news₂, rfl, F₅, N₅, hnw₅, hJ₅⟩ := h₅
      have hl : ys.length ≤ i := hlen _ _ _ hJ'
      refine wpAny_list_append_plain (items := ys.toArray) (hsz := by rw [List.size_toArray]; omega) ⟨k, (N₅ _ (.tail _ (.head _))).1⟩ fun h₆ hp₆ hs₆ => ?_
      obtain ⟨k₆, hk₆⟩ := hp₆
      have up₆ : ∀ b o, b ≠ D → h₅.get? b = some o → h₆.get? b = some o := fun b o hb e => hs₆.extBut b o hb e
      refine ⟨n + 1 - (i + 1), by omega, h₆, tk₅, ys ++ [y], news₂, i + 1, k₆, _, rfl, keepSt h₅ F₅ (fun p hp => N₅ p (.tail _ (.tail _ (List.mem_append_right _ hp)))) h₆ up₆,
        ⟨F₅.ns.at' fun o e => up₆ _ o hLD e, fun b o e => up₆ b o (fun q => by rw [q, nD] at e; cases e) (F₅.keep b o e), F₅.above⟩, (by rw [hk₆]; simp), hNsC _ (up₆ _ _ hCD (N₅ _ (.head _)).1),
        (fun p hp => ⟨up₆ _ _ (hnw₅ p hp).2.1 (N₅ p (.tail _ (.tail _ (List.mem_append_left _ hp)))).1, (N₅ p (.tail _ (.tail _ (List.mem_append_left _ hp)))).2⟩), hnw₅, hJ₅, hlt, rfl⟩
    · have hin : i = n := by omega
      subst hin
      refine W.done _ _ _ hst' fun h₂ tk₂ hk₂ => ?_
      obtain ⟨F₂, N₂, hD₂, hns₂⟩ := after h₂ hk₂
      refine ⟨mC, hns₂, fun h₃ hs₃ => ?_⟩
      have up₃ : ∀ b o, b ≠ C → h₂.get? b = some o → h₃.get? b = some o := fun b o hb e => hs₃.extBut b o hb e
      refine done D k ys news₁ h₃ tk₂ hJ' ⟨F₂.ns.at' fun o e => up₃ _ o hLC e, fun b o e => up₃ b o (fun q => by rw [q, nC] at e; cases e) (F₂.keep b o e), F₂.above⟩ ?_ fun p hp => (hnw' p hp).2.1
      intro p hp
      rcases List.mem_cons.mp hp with rfl | hp
      · exact ⟨up₃ _ _ (Ne.symm hCD) hD₂, Ne.symm hLD, nD⟩
      · exact ⟨up₃ _ _ (hnw' p hp).1 (N₂ p hp).1, (N₂ p hp).2⟩
  exact codeC_compStart_list (loop _ rfl) (W.self 0 _ _ _ hst₁ (loop _ rfl))
end

section
variable {prog : Program} {w : World} {A₀ A : Around} {s : Shared} {base h₀ : Heap} {L f : Addr} {m : Str → Option Value} {env : Env} {outer : List Env} {news : List (Addr × Obj)} {R : Result → Shared → Prop} {fo : Obj}
  {name qual : Str} {params : Arguments} {body : List Stmt} {scope : Scope} {cl : List (Str × Addr)} {dV kV doc pm cdv ct : Value} {an : Option Addr} {args : Args} {binds : List (Str × Value)}
theorem codeC_call_def {R : Result → Shared → Prop} {a : Addr} {o : Obj} {fd : FuncData} {body : List Stmt} {args : Args} {binds : List (Str × Value)}
    (hroom : A.depth < recursionLimit) (ho : s.heap.get? a = some o) (hdata : o.data = .func fd) (hlim : s.heap.NoLimit) (hcd : s.heap.CodeRec fd.code fd.qualname)
    (hbody : fd.body = .stmts body) (hbind : BindsTo s fd args binds)
    (hcell : ∀ x ∈ fd.scope.names, x.2 ≠ .cell) (hloc : ∀ x ∈ binds, fd.scope.names.lookup x.1 = some .local)
    (h : ∀ h₀, h₀.Ns s.heap.objs.size (fun x => binds.reverse.lookup x) → (∀ b o, s.heap.get? b = some o → h₀.get? b = some o) →
      wpC (model prog w) (A.deeper (callEnv fd s.heap.objs.size a)) (execs body (callEnv fd s.heap.objs.size a)) (fun f s' => R (.ok (.ret (match f with | .ret v => v | _ => .none))) s')
        (fun e s' => wpAny (model prog w) (A.deeper (callEnv fd s.heap.objs.size a)) (leaving (callEnv fd s.heap.objs.size a) e) (fun _ s'' => R (.error e) s'') (fun e' s'' => R (.error e') s'') s')
        { s with heap := h₀, toks := s.toks + binds.length })
    (hco : fd.scope.isCoroutine = false := by rfl) (hgen : fd.scope.isGenerator = false := by rfl) (hk : fd.scope.kind = .function := by rfl) :
    codeC (model prog w) A (.call (.ref a) args) R s := by
  refine codeC_call_function hroom ho hdata hco hgen hbody hcd (hbind _ _ _ _ ?_)
  refine wpAny_newFunctionEnv hcell hloc (fun h₀ hns₀ hsb₀ => ⟨hlim.fresh _ hsb₀, codeC_func (h h₀ hns₀ fun b o e => ?_)⟩) hk
  exact hsb₀.extBut b o (Nat.ne_of_lt (Heap.lt_size e)) (Heap.get?_push_of_some _ e)
theorem callC_plain (B : Below A₀ base outer h₀) (F : Fr h₀ L s.heap m) (N : News h₀ L s.heap news) (hlim : h₀.NoLimit) (hA : A.frames = some (env :: outer)) (hf : env.frame = some L) (hke : env.scope.kind = .function)
    (ho : s.heap.get? f = some fo) (hd : fo.data = .func (fnX name qual params body scope cl dV kV doc pm an cdv ct)) (hcd : s.heap.CodeRec cdv qual) (hroom : A.depth < recursionLimit)
    (hbind : BindsTo s (fnX name qual params body scope cl dV kV doc pm an cdv ct) args binds) (hloc : ∀ y ∈ binds, scope.names.lookup y.1 = some .local)
    (h : ∀ g L' h₁, Fr h₀ L g m → Fr g L' h₁ (fun y => binds.reverse.lookup y) → News g L' h₁ news → Below A base (env :: outer) g → h₀.StaysIn g → (∀ p ∈ news, p.1 < L') →
      wpC (model prog w) (A.deeper (envX qual scope L' f cdv cl)) (execs body (envX qual scope L' f cdv cl))
        (fun fl s' => LeaveK h₀ L m g R (match fl with | .ret v => v | _ => .none) s')
        (fun e s' => wpAny (model prog w) (A.deeper (envX qual scope L' f cdv cl)) (leaving (envX qual scope L' f cdv cl) e) (fun _ s'' => R (.error e) s'') (fun e' s'' => R (.error e') s'') s')
        { s with heap := h₁, toks := s.toks + binds.length })
    (hcell : ∀ x ∈ scope.names, x.2 ≠ .cell) (hco : scope.isCoroutine = false := by rfl) (hgen : scope.isGenerator = false := by rfl) (hk : scope.kind = .function := by rfl) : codeC (model prog w) A (.call (.ref f) args) R s := by
  obtain ⟨FG, BG, st, lv⟩ := groundX (R := R) B F N hA hf hke
  refine codeC_call_def (fd := fnX name qual params body scope cl dV kV doc pm an cdv ct) (body := body) (binds := binds) hroom ho hd (hlim.keeps F.keep) hcd rfl hbind hcell hloc (fun h₁ hns hk₁ => ?_) hco hgen hk
  exact wpC_mono (h _ s.heap.objs.size h₁ FG ⟨hns, fun b o e => hk₁ b o (of_hideAll _ e), Nat.le_of_eq (hideAll_size _ _)⟩
    (fun p hp => ⟨hk₁ _ _ (N p hp).1, Nat.ne_of_lt (Heap.lt_size (N p hp).1), hideAll_none _ (List.mem_map_of_mem hp)⟩) BG st (fun p hp => Heap.lt_size (N p hp).1)) (fun fl s' hl => lv _ _ hl) fun _ _ y => y
end
end Mine
end
section
open PySem PySem.W PySem.Calls PyProof.Rows
set_option Elab.async false
set_option maxRecDepth 100000
set_option maxHeartbeats 4000000
namespace Mine
section
variable {prog : Program} {w : World} {A₀ : Around} {E : Value → Shared → Prop} {s' : Shared} {base g h : Heap} {outer : List Env} {L a e : Addr} {m : Str → Option Value} {name : Str} {scope : Scope} {cd : Value}
  {hs : List ExceptHandler} {Q : Flow → Shared → Prop} {news : List (Addr × Obj)}
/-- a builtin's new exception, caught in the frame that called it: from here the library's lines of a caught exception take over -/
theorem look_new {cls : String} (K : Below A₀ base outer g) (hx : Heap.NewExc h s'.heap e cls) (F : Fr g L h m) (N : News g L h news)
    (k : ∀ h' G, Fr g L G m → RaisedSN base G (envOf name scope L a cd :: outer) e (.type cls) news h' → G.UpToSlots h' → wpAny (model prog w) (A₀.deeper (envOf name scope L a cd)) (handleBy (.ref e) (envOf name scope L a cd) hs) Q E { s' with heap := h' }) (hk : scope.kind = .function := by rfl) :
    wpAny (model prog w) (A₀.deeper (envOf name scope L a cd)) (noteFrame (.ref e) (envOf name scope L a cd))
      (fun _ s₂ => wpAny (model prog w) (A₀.deeper (envOf name scope L a cd)) (setFlight (.ref e) none) (fun _ s₃ =>
        wpAny (model prog w) (A₀.deeper (envOf name scope L a cd)) (handleBy (.ref e) (envOf name scope L a cd) hs) Q E s₃) E s₂) E s' := by
  have K' := K.push (name := name) (a := a) (cd := cd) F hk
  have hin : ∀ env ∈ (envOf name scope L a cd :: outer), ∀ b, env.frame = some b → b ∈ (envOf name scope L a cd :: outer).filterMap (·.frame) := fun env he b hb => List.mem_filterMap.mpr ⟨env, he, hb⟩
  have hgh : ∀ b o, (hideAll h (news.map (·.1))).get? b = some o → h.get? b = some o := fun b o e => of_hideAll _ e
  have nmN : ∀ b o, g.get? b = some o → b ∉ news.map (·.1) := fun b o e q => by
    obtain ⟨p, hp, rfl⟩ := List.mem_map.mp q
    rw [(N p hp).2.2] at e; cases e
  have FG : Fr g L (hideAll h (news.map (·.1))) m := by
    obtain ⟨oL, es, ep, hL, hLd, hLk, hLf⟩ := F.ns
    have nL : L ∉ news.map (·.1) := fun q => by
      obtain ⟨p, hp, e⟩ := List.mem_map.mp q
      exact (N p hp).2.1 e
    exact ⟨⟨oL, es, ep, hideAll_get _ hL nL, hLd, hLk, hLf⟩, fun b o q => hideAll_get _ (F.keep b o q) (nmN b o q), F.above⟩
  have st : base.StaysIn (hideAll h ((envOf name scope L a cd :: outer).filterMap (·.frame))) := fun b o q => hideAll_get _ (K'.stays b o q) fun hm => by
    rw [(K'.frames.mem hm).1] at q; cases q
  have sg : ∀ b o, (hideAll h (news.map (·.1))).get? b = some o → b ∉ (envOf name scope L a cd :: outer).filterMap (·.frame) → (hideAll h ((envOf name scope L a cd :: outer).filterMap (·.frame))).get? b = some o :=
    fun b o q nm => hideAll_get _ (hgh b o q) nm
  have hl : ∀ q ∈ news, (hideAll h ((envOf name scope L a cd :: outer).filterMap (·.frame))).get? q.1 = some q.2 ∧ (hideAll h (news.map (·.1))).get? q.1 = none ∧ base.get? q.1 = none := fun q hq => by
    refine ⟨hideAll_get _ (N q hq).1 fun hm => ?_, hideAll_none _ (List.mem_map_of_mem hq), fresh_of_stays K.stays (N q hq).2.2⟩
    obtain ⟨env, he, hf⟩ := List.mem_filterMap.mp hm
    rcases List.mem_cons.mp he with rfl | he
    · exact (N q hq).2.1 (Option.some.inj hf).symm
    · obtain ⟨o, ho, _⟩ := (K.frames.mem (List.mem_filterMap.mpr ⟨env, he, hf⟩)).2
      rw [(N q hq).2.2] at ho; cases ho
  obtain ⟨ob, tp, he, hcls, hd⟩ := hx.there
  have hen : (hideAll h ((envOf name scope L a cd :: outer).filterMap (·.frame))).get? e = none := by
    cases q : (hideAll h ((envOf name scope L a cd :: outer).filterMap (·.frame))).get? e with
    | none => rfl
    | some o => have := of_hideAll _ q; rw [hx.new] at this; cases this
  unfold noteFrame
  simp only [show (envOf name scope L a cd).frame = some L from rfl]
  refine wpAny_bind (wpAny_field he hd (x := .none) rfl ?_)
  rw [if_neg (by decide)]
  refine wpAny_newEntryW (base := hideAll h ((envOf name scope L a cd :: outer).filterMap (·.frame))) (outer := outer) (a0 := tp) K'.stack
    ((funFrames_hide K'.frames hin).of_keeps fun b o hb _ => ⟨o, hx.keeps b o hb, rfl⟩) rfl he (fun b o hb => hx.keeps b o (of_hideAll _ hb)) hen hd (by first | decide | simp) rfl fun h' hL => ?_
  obtain ⟨k1, k2, k3, k4⟩ := hL
  exact k h' _ FG ⟨_, tp, st, sg, hl, k1, hen, k2, by rw [← hcls]; exact k3⟩ (((Heap.UpToSlots.of_keeps hgh).trans (Heap.UpToSlots.of_keeps hx.keeps)).trans k4)
end

section
variable {prog : Program} {w : World} {A₀ A : Around} {s : Shared} {base h₀ : Heap} {L : Addr} {m : Str → Option Value} {env : Env} {news : List (Addr × Obj)} {K : Frag} {p : Program} {loose : List Str} {mean : ExcName → Option Value} {mg mb : Str → Option Value}
    {R : Result → Shared → Prop} {name qual : Str} {params : Arguments} {body : List Stmt} {scope : Scope} {dV kV doc pm cdv ct oc : Value} {an od : Option Addr} {osl : Array (Option Value)} {f : Addr} {args : Args} {binds : List (Str × Value)}

/-- (under the caller) a def whose body may catch, called from a frame of any make (one with cells too) right above the caller -/
theorem enterTryC (B : Below A₀ base [] h₀) (F : Fr h₀ L s.heap m) (X₀ : K.In h₀) (N : News h₀ L s.heap news) (T : Top p loose mean mg mb h₀) (hA : A.frames = some [env]) (hf : env.frame = some L) (hke : env.scope.kind = .function)
    (ho : K.lookup f = some ⟨oc, od, .func (fnOf name qual params body scope dV kV doc pm an cdv ct), osl⟩) (hcd : codeIn K cdv qual = true) (hroom : A.depth < recursionLimit)
    (hbind : BindsTo s (fnOf name qual params body scope dV kV doc pm an cdv ct) args binds) (hloc : ∀ y ∈ binds, scope.names.lookup y.1 = some .local)
    (h : ∀ g L' h₁, Fr h₀ L g m → Fr g L' h₁ (fun y => binds.reverse.lookup y) → News g L' h₁ news → Below A base [env] g → K.In g → Top p loose mean mg mb g → KtsDicts ([env].filterMap (·.frame)) g →
      wpC (model prog w) (A.deeper (envOf qual scope L' f cdv)) (execs body (envOf qual scope L' f cdv))
        (fun fl s' => LeaveS0 ([env].filterMap (·.frame)) h₀ L m g R (match fl with | .ret v => v | _ => .none) s')
        (fun e s' => wpAny (model prog w) (A.deeper (envOf qual scope L' f cdv)) (leaving (envOf qual scope L' f cdv) e) (fun _ s'' => R (.error e) s'') (fun e' s'' => R (.error e') s'') s')
        { s with heap := h₁, toks := s.toks + binds.length })
    (hco : scope.isCoroutine = false) (hgen : scope.isGenerator = false) (hk : scope.kind = .function)
    (hcell : ∀ x ∈ scope.names, x.2 ≠ .cell) : codeC (model prog w) A (.call (.ref f) args) R s := by
  have X := X₀.keeps F.keep
  obtain ⟨FG, BG, st, _⟩ := groundX (R := R) B F N hA hf hke
  have efs : [env].filterMap (·.frame) = [L] := by simp [hf]
  obtain ⟨oL, es, ep, hLg, hLd, hLk, hLf⟩ := FG.ns
  have nL₀ : h₀.get? L = none := kts_self F
  refine codeC_call_def (fd := fnOf name qual params body scope dV kV doc pm an cdv ct) (body := body) (binds := binds) hroom (X _ _ ho) rfl (T.nolimit.keeps F.keep) (codeRec_of X hcd) rfl hbind hcell hloc (fun h₁ hns hk₁ => ?_) hco hgen hk
  refine wpC_mono (h _ s.heap.objs.size h₁ ⟨⟨oL, es, ep, hLg, hLd, hLk, hLf⟩, FG.keep, FG.above⟩ ⟨hns, fun b o e => hk₁ b o (of_hideAll _ e), Nat.le_of_eq (hideAll_size _ _)⟩
    (fun q hq => ⟨hk₁ _ _ (N q hq).1, Nat.ne_of_lt (Heap.lt_size (N q hq).1), hideAll_none _ (List.mem_map_of_mem hq)⟩) BG (X₀.keeps st) (T.keeps st) ?_) ?_ fun _ _ y => y
  · intro b hb
    rw [efs] at hb
    rw [List.mem_singleton.mp hb]
    exact ⟨oL, es, ep, hLg, hLd⟩
  · rintro fl s' ⟨g', L', m', news', T', F', N', k⟩
    rw [efs] at T'
    obtain ⟨sl, hs⟩ := T'.up hLg
    have old : ∀ b o, h₀.get? b = some o → g'.get? b = some o := fun b o e => T'.other b o (st b o e) fun q => by
      rw [List.mem_singleton.mp q, nL₀] at e
      cases e
    refine k ⟨⟨_, es, ep, F'.keep _ _ hs, hLd, hLk, hLf⟩, fun b o e => F'.keep b o (old b o e), F.above⟩ fun q hq => ⟨(N' q hq).1, fun z => ?_, ?_⟩
    · have := (N' q hq).2.2
      rw [z, hs] at this
      cases this
    · cases z : h₀.get? q.1 with
      | none => rfl
      | some o =>
        have := (N' q hq).2.2
        rw [old _ _ z] at this
        cases this
end

section
variable {prog : Program} {w : World} {A₀ A : Around} {s : Shared} {base h₀ g₀ : Heap} {outer : List Env} {L a : Addr} {m : Str → Option Value} {cn : Str} {cs : Scope} {ccd : Value} {news : List (Addr × Obj)} {K : Frag} {p : Program} {loose : List Str} {mean : ExcName → Option Value} {mg mb : Str → Option Value}
    {R : Result → Shared → Prop} {name qual : Str} {params : Arguments} {body : List Stmt} {scope : Scope} {dV kV doc pm cdv ct oc : Value} {an od : Option Addr} {osl : Array (Option Value)} {f : Addr} {args : Args} {binds : List (Str × Value)}
theorem codeC_defS (B : Below A₀ base outer h₀) (F : Fr h₀ L s.heap m) (X₀ : K.In h₀) (N : News h₀ L s.heap news) (T : Top p loose mean mg mb h₀) (XB : K.In base) (TB : Top p loose mean mg mb base) (D : KtsDicts (outer.filterMap (·.frame)) h₀)
    (T0 : KtsTurn (outer.filterMap (·.frame)) g₀ h₀) (hA : A.frames = some (envOf cn cs L a ccd :: outer))
    (ho : K.lookup f = some ⟨oc, od, .func (fnOf name qual params body scope dV kV doc pm an cdv ct), osl⟩) (hcd : codeIn K cdv qual = true) (hroom : A.depth < recursionLimit)
    (hbind : BindsTo s (fnOf name qual params body scope dV kV doc pm an cdv ct) args binds) (hloc : ∀ y ∈ binds, scope.names.lookup y.1 = some .local)
    (h : ∀ g L' h₁, Fr h₀ L g m → Fr g L' h₁ (fun y => binds.reverse.lookup y) → News g L' h₁ news → Below A base (envOf cn cs L a ccd :: outer) g → K.In g → Top p loose mean mg mb g → KtsDicts ((envOf cn cs L a ccd :: outer).filterMap (·.frame)) g →
      wpC (model prog w) (A.deeper (envOf qual scope L' f cdv)) (execs body (envOf qual scope L' f cdv))
        (fun fl s' => LeaveS ((envOf cn cs L a ccd :: outer).filterMap (·.frame)) A₀ base outer K p loose mean mg mb g₀ h₀ L m g R (match fl with | .ret v => v | _ => .none) s')
        (fun e s' => wpAny (model prog w) (A.deeper (envOf qual scope L' f cdv)) (leaving (envOf qual scope L' f cdv) e) (fun _ s'' => R (.error e) s'') (fun e' s'' => R (.error e') s'') s')
        { s with heap := h₁, toks := s.toks + binds.length })
    (hck : cs.kind = .function) (hco : scope.isCoroutine = false) (hgen : scope.isGenerator = false) (hk : scope.kind = .function)
    (hcell : ∀ x ∈ scope.names, x.2 ≠ .cell) : codeC (model prog w) A (.call (.ref f) args) R s := by
  have X := X₀.keeps F.keep
  refine codeC_call_def (fd := fnOf name qual params body scope dV kV doc pm an cdv ct) (body := body) (binds := binds) hroom (X _ _ ho) rfl (T.nolimit.keeps F.keep) (codeRec_of X hcd) rfl hbind hcell hloc (fun h₁ hns hk₁ => ?_) hco hgen hk
  obtain ⟨oL, es, ep, hLg, hLd, hN, hNs, st, B₂⟩ := kts_enter B F N hA hck
  refine wpC_mono (h _ s.heap.objs.size h₁ ⟨hN _ hLg, st, F.above⟩ ⟨hns, fun b o e => hk₁ b o (of_hideAll _ e), Nat.le_of_eq (hideAll_size _ _)⟩
    (fun p hp => ⟨hk₁ _ _ (N p hp).1, Nat.ne_of_lt (Heap.lt_size (N p hp).1), hideAll_none _ (List.mem_map_of_mem hp)⟩) B₂ (X₀.keeps st) (T.keeps st) (fun b hb => by
      rcases kts_mem hb with rfl | hb
      · exact ⟨oL, es, ep, hLg, hLd⟩
      · obtain ⟨o, es', n', ho', hd'⟩ := D b hb
        exact ⟨o, es', n', st b o ho', hd'⟩)) (fun fl s' hl => ?_) fun _ _ y => y
  have nL₀ : h₀.get? L = none := kts_self F
  rcases hl with ⟨L', m', news', F', N', k⟩ | ⟨g', L', m', news', T', F', N', k⟩
  · refine k ⟨hN _ (F'.keep _ _ hLg), fun b o e => F'.keep b o (st b o e), F.above⟩ fun p hp => ⟨(N' p hp).1, fun q => ?_, ?_⟩
    · have := (N' p hp).2.2; rw [q, hLg] at this; cases this
    · cases q : h₀.get? p.1 with
      | none => rfl
      | some o => have := (N' p hp).2.2; rw [st _ _ q] at this; cases this
  obtain ⟨sl, hs⟩ := T'.up hLg
  obtain ⟨T₁, S₁⟩ := kts_turn_at (h := s'.heap) (fs := outer.filterMap (·.frame)) (g := h₀)
    (fun b hb => by
      obtain ⟨_, o, ho', _⟩ := B.frames.mem hb
      exact ⟨o, ho'⟩)
    (fun b o e nmem => F'.keep b o (T'.other b o (st b o e) (fun q => by
      rcases kts_mem q with z | z
      · rw [z, nL₀] at e
        cases e
      · exact nmem z)))
    (fun b o e hm => by
      obtain ⟨sl', hs'⟩ := T'.up (st b o e)
      exact ⟨sl', F'.keep _ _ hs'⟩)
  have B₃ : Below A₀ base outer (ktsHeap s'.heap (outer.filterMap (·.frame)) h₀) := ⟨B.stack, fun b o e => T₁.other b o (B.stays b o e) (fun hm => by
    rw [(B.frames.mem hm).1] at e
    cases e), B.frames.of_keeps fun b o e _ => by
    obtain ⟨sl', hs'⟩ := T₁.up e
    exact ⟨_, hs', rfl⟩⟩
  refine k _ (T0.trans T₁) ⟨hNs sl _ (F'.keep _ _ hs), S₁, by rw [T₁.size]; exact F.above⟩ (fun p hp => ⟨(N' p hp).1, fun q => ?_, ?_⟩) B₃ (XB.keeps B₃.stays) (TB.keeps B₃.stays) (D.turn T₁)
  · have := (N' p hp).2.2; rw [q, hs] at this; cases this
  · refine T₁.none_ _ ?_
    cases q : h₀.get? p.1 with
    | none => rfl
    | some o =>
      obtain ⟨sl', hs'⟩ := T'.up (st _ _ q)
      have := (N' p hp).2.2
      rw [hs'] at this
      cases this
end
end Mine
end
section
open PySem PySem.W PySem.Calls PyProof.Rows
set_option Elab.async false
set_option maxRecDepth 100000
namespace Mine
/-- the tuples of a palette: addresses and objects, and the ints in them -/
inductive Ents : List (Addr × Obj) → List (List Int) → Prop
  | nil : Ents [] []
  | cons (a : Addr) {vs : List Value} {ns : List Int} {es : List (Addr × Obj)} {E : List (List Int)} : IntsAre vs ns → ns.length ≤ 5 → Ents es E → Ents ((a, ({ cls := .type "tuple", data := .seq vs.toArray } : Obj)) :: es) (ns :: E)
def refs (es : List (Addr × Obj)) : List Value := es.map fun q => .ref q.1
def okRow (seen : Bool) (ns : List Int) : Bool := (ns.length == 3 || ns.length == 4) && !((seen || ns.length == 3) && ns.length == 4) && ns.all fun x => decide (0 ≤ x) && decide (x ≤ 255)
def okFrom : Bool → List (List Int) → Bool
  | _, [] => true
  | seen, ns :: E => okRow seen ns && okFrom (seen || ns.length == 3) E
def okPal (E : List (List Int)) : Bool := decide (0 < E.length) && decide (E.length ≤ 256) && okFrom false E
def Stop (P : Prop) : Prop := P
theorem Stop.mk {P : Prop} (h : Stop P) : P := h
theorem Ents.length {es : List (Addr × Obj)} {E : List (List Int)} (h : Ents es E) : es.length = E.length := by
  induction h with
  | nil => rfl
  | cons a _ _ _ ih => simp [ih]
theorem refs_length (es : List (Addr × Obj)) : (refs es).length = es.length := by simp [refs]
theorem Ents.get {es : List (Addr × Obj)} {E : List (List Int)} (h : Ents es E) : ∀ {i : Nat} {v : Value}, (refs es)[i]? = some v → ∃ a vs ns, v = .ref a ∧ (a, ({ cls := .type "tuple", data := .seq vs.toArray } : Obj)) ∈ es ∧ E[i]? = some ns ∧ IntsAre vs ns ∧ ns.length ≤ 5 := by
  induction h with
  | nil => intro i v h; simp [refs] at h
  | cons a hI h5 _ ih =>
    rename_i vs ns es' E' _
    intro i v h
    cases i with
    | zero =>
      have : v = .ref a := by simpa [refs] using h.symm
      exact ⟨a, vs, ns, this, .head _, rfl, hI, h5⟩
    | succ i =>
      obtain ⟨a', vs', ns', e1, e2, e3, e4⟩ := ih (i := i) (v := v) (by simpa [refs] using h)
      exact ⟨a', vs', ns', e1, .tail _ e2, by simpa using e3, e4⟩
theorem ints_get {vs : List Value} {ns : List Int} (h : IntsAre vs ns) : ∀ {j : Nat} {v : Value}, vs[j]? = some v → ∃ n t, v = .int n t ∧ ns[j]? = some n := by
  induction h with
  | nil => intro j v h; simp at h
  | cons n t _ ih =>
    intro j v h
    cases j with
    | zero => exact ⟨n, t, by simpa using h.symm, rfl⟩
    | succ j => obtain ⟨n', t', e1, e2⟩ := ih (j := j) (v := v) (by simpa using h); exact ⟨n', t', e1, by simpa using e2⟩
theorem okPal_len {P : List (List Int)} {es : List (Addr × Obj)} (hE : Ents es P) (h : ¬ (0 < (es.length : Int) ∧ (es.length : Int) ≤ 256)) : okPal P = false := by
  rw [hE.length] at h
  unfold okPal
  have : (decide (0 < P.length) && decide (P.length ≤ 256)) = false := by
    rw [Bool.eq_false_iff]; intro q
    rw [Bool.and_eq_true, decide_eq_true_eq, decide_eq_true_eq] at q
    omega
  rw [this]; rfl
theorem okPal_from {P : List (List Int)} {es : List (Addr × Obj)} (hE : Ents es P) (h0 : 0 < (es.length : Int)) (h1 : (es.length : Int) ≤ 256) : okPal P = okFrom false P := by
  rw [hE.length] at h0 h1
  unfold okPal
  rw [decide_eq_true (by omega : 0 < P.length), decide_eq_true (by omega : P.length ≤ 256)]; rfl
theorem drop_row {P : List (List Int)} {i : Nat} {ns : List Int} (h : P[i]? = some ns) : P.drop i = ns :: P.drop (i + 1) := by
  obtain ⟨hi, e⟩ := List.getElem?_eq_some_iff.mp h
  rw [← e]; exact List.drop_eq_getElem_cons hi
theorem bad_row {P : List (List Int)} {i : Nat} {ns : List Int} {b : Bool} (hg : okFrom false P = okFrom b (P.drop i)) (hns : P[i]? = some ns) (h : okRow b ns = false) : okPal P = false := by
  rw [drop_row hns] at hg
  have : okFrom false P = false := by rw [hg]; show (okRow b ns && _) = false; rw [h]; rfl
  unfold okPal; rw [this, Bool.and_false]
theorem next_row {P : List (List Int)} {i : Nat} {ns : List Int} {b : Bool} (hg : okFrom false P = okFrom b (P.drop i)) (hns : P[i]? = some ns) (h : okRow b ns = true) : okFrom false P = okFrom (b || ns.length == 3) (P.drop (i + 1)) := by
  rw [drop_row hns] at hg
  rw [hg]; show (okRow b ns && _) = _; rw [h, Bool.true_and]
theorem row_len {ns : List Int} {b : Bool} (h : ([(3 : Int), 4].any fun x => x == (ns.length : Int)) = false) : okRow b ns = false := by
  simp only [List.any_cons, List.any_nil, Bool.or_false, Bool.or_eq_false_iff, beq_eq_false_iff_ne, ne_eq] at h
  have : (ns.length == 3 || ns.length == 4) = false := by simp only [Bool.or_eq_false_iff, beq_eq_false_iff_ne, ne_eq]; omega
  unfold okRow; rw [this]; rfl
theorem row_late {ns : List Int} {b : Bool} (h4 : (ns.length : Int) = 4) (hb : b = true) : okRow b ns = false := by
  have : (ns.length == 4) = true := by simp only [beq_iff_eq]; omega
  unfold okRow; rw [this, hb]; simp
theorem row_val {ns : List Int} {b : Bool} {j : Nat} {n : Int} (hn : ns[j]? = some n) (h : ¬ (0 ≤ n ∧ n ≤ 255)) : okRow b ns = false := by
  have : (ns.all fun x => decide (0 ≤ x) && decide (x ≤ 255)) = false := by
    rw [Bool.eq_false_iff]; intro q
    have := List.all_eq_true.mp q n (List.mem_of_getElem? hn)
    rw [Bool.and_eq_true, decide_eq_true_eq, decide_eq_true_eq] at this
    exact h this
  unfold okRow; rw [this, Bool.and_false]
theorem any34 {ns : List Int} (hm : ([(3 : Int), 4].any fun x => x == (ns.length : Int)) = true) (h3 : ¬ (ns.length : Int) = 3) (h4 : ¬ (ns.length : Int) = 4) : False := by
  simp only [List.any_cons, List.any_nil, Bool.or_false, Bool.or_eq_true, beq_iff_eq] at hm
  omega
theorem take_ok {ns : List Int} {j : Nat} {n : Int} (hg : ∀ x ∈ ns.take j, 0 ≤ x ∧ x ≤ 255) (hn : ns[j]? = some n) (h0 : 0 ≤ n) (h1 : n ≤ 255) : ∀ x ∈ ns.take (j + 1), 0 ≤ x ∧ x ≤ 255 := by
  intro x hx
  rw [List.take_add_one, hn] at hx
  rcases List.mem_append.mp hx with hx | hx
  · exact hg x hx
  · have : x = n := by simpa using hx
    rw [this]; exact ⟨h0, h1⟩
theorem all_ok {vs : List Value} {ns : List Int} (hI : IntsAre vs ns) (hg : ∀ x ∈ ns.take vs.length, 0 ≤ x ∧ x ≤ 255) : (ns.all fun x => decide (0 ≤ x) && decide (x ≤ 255)) = true := by
  rw [hI.length, List.take_length] at hg
  refine List.all_eq_true.mpr fun x hx => ?_
  rw [Bool.and_eq_true, decide_eq_true_eq, decide_eq_true_eq]; exact hg x hx
theorem next3 {P : List (List Int)} {i : Nat} {vs : List Value} {ns : List Int} {b : Bool} (hg : okFrom false P = okFrom b (P.drop i)) (hns : P[i]? = some ns) (hI : IntsAre vs ns) (h3 : (ns.length : Int) = 3) (ho : ∀ x ∈ ns.take vs.length, 0 ≤ x ∧ x ≤ 255) :
    okFrom false P = okFrom true (P.drop (i + 1)) := by
  have e3 : (ns.length == 3) = true := by simp only [beq_iff_eq]; omega
  have e4 : (ns.length == 4) = false := by simp only [beq_eq_false_iff_ne, ne_eq]; omega
  have := next_row hg hns (by unfold okRow; rw [e3, e4, all_ok hI ho]; simp)
  rw [this, e3, Bool.or_true]
theorem next4 {P : List (List Int)} {i : Nat} {vs : List Value} {ns : List Int} {b : Bool} (hg : okFrom false P = okFrom b (P.drop i)) (hns : P[i]? = some ns) (hI : IntsAre vs ns) (hm : ([(3 : Int), 4].any fun x => x == (ns.length : Int)) = true) (h3 : ¬ (ns.length : Int) = 3) (hb : b = false)
    (ho : ∀ x ∈ ns.take vs.length, 0 ≤ x ∧ x ≤ 255) : okFrom false P = okFrom b (P.drop (i + 1)) := by
  simp only [List.any_cons, List.any_nil, Bool.or_false, Bool.or_eq_true, beq_iff_eq] at hm
  have e3 : (ns.length == 3) = false := by simp only [beq_eq_false_iff_ne, ne_eq]; omega
  have e4 : (ns.length == 4) = true := by simp only [beq_iff_eq]; omega
  have := next_row hg hns (by unfold okRow; rw [e3, e4, hb, all_ok hI ho]; rfl)
  rw [this, e3, Bool.or_false]
section
variable {prog : Program} {w : World} {A : Around} {E : Value → Shared → Prop} {s : Shared}
theorem len_refs {p : Addr} {es : List (Addr × Obj)} {n : Nat} {Q : Value → Shared → Prop} (hp : s.heap.get? p = some (listOf (refs es).toArray n)) (hsz : es.length ≤ sizeLine) (h : Q (.int (es.length : Int) (s.toks + 1)) { s with toks := s.toks + 1 + 1 }) :
    wpAny (model prog w) A (call (.builtin "len") [.ref p]) Q E s := by
  have e : (refs es).toArray.size = es.length := by rw [List.size_toArray, refs_length]
  refine Calls.call_len_list ⟨_, hp, rfl, _, rfl⟩ ?_ (by rw [e]; exact h)
  rw [e]
  have : sizeLine < 2 ^ 63 := by decide
  have : (es.length : Int) ≤ (sizeLine : Int) := by exact_mod_cast hsz
  have : (sizeLine : Int) < 2 ^ 63 := by decide
  omega
theorem len_ints {a : Addr} {vs : List Value} {ns : List Int} {Q : Value → Shared → Prop} (ha : s.heap.get? a = some ({ cls := .type "tuple", data := .seq vs.toArray } : Obj)) (hI : IntsAre vs ns) (h5 : ns.length ≤ 5) (h : Q (.int (ns.length : Int) (s.toks + 1)) { s with toks := s.toks + 1 + 1 }) :
    wpAny (model prog w) A (call (.builtin "len") [.ref a]) Q E s := by
  have e : vs.toArray.size = ns.length := by rw [List.size_toArray]; exact hI.length
  refine PyProof.Rows.len_tuple ⟨_, ha, rfl, _, rfl⟩ ?_ (by rw [e]; exact h)
  rw [e]; omega
end
end Mine
end
section
open PySem PySem.W PySem.Calls PyProof.Rows
set_option Elab.async false
set_option maxRecDepth 100000
set_option maxHeartbeats 4000000
namespace Mine
theorem News.comm {h₀ : Heap} {L : Addr} {h : Heap} {a b : List (Addr × Obj)} (N : News h₀ L h (a ++ b)) : News h₀ L h (b ++ a) := fun q hq => N q (by
  rcases List.mem_append.mp hq with hq | hq
  · exact List.mem_append_right _ hq
  · exact List.mem_append_left _ hq)
/-- how a turn of a loop ends that goes on -/
structure StepE (h₀ : Heap) (L : Addr) (led : List (Addr × Obj)) (J : (Str → Option Value) → Prop) (s₁ : Shared) (f : Flow) (s' : Shared) : Prop where
  fl : f = .next
  to : ∃ h' tk m₂, s' = { s₁ with heap := h', toks := tk } ∧ Fr h₀ L h' m₂ ∧ News h₀ L h' led ∧ J m₂
section
variable {prog : Program} {w : World} {A : Around} {E : Value → Shared → Prop} {s : Shared} {env : Env} {h₀ : Heap}
structure EnumAt (prog : Program) (w : World) (A : Around) (h₀ : Heap) (env : Env) (xi xc : Str) (body : List Stmt) (Q : Flow → Shared → Prop) (E : Value → Shared → Prop) (xv : Value) (s₁ : Shared) : Prop where
  it : ∃ (e it l : Addr) (items : List Value) (n : Nat) (m : Str → Option Value) (news : List (Addr × Obj)) (J : Nat → (Str → Option Value) → Prop),
    xv = .ref e ∧ IsEnum s₁.heap e it 0 .none ∧ s₁.heap.IsListIter it l 0 ∧ (l, listOf items.toArray n) ∈ news ∧ e ≠ it ∧ (∀ p ∈ news, p.1 ≠ e ∧ p.1 ≠ it) ∧ env.locals ≠ e ∧ env.locals ≠ it ∧ h₀.get? e = none ∧ h₀.get? it = none ∧
    Fr h₀ env.locals s₁.heap m ∧ News h₀ env.locals s₁.heap news ∧ J 0 m ∧
    (∀ i v t m₁ s₂ own, (∃ h tk, s₂ = { s₁ with heap := h, toks := tk }) → items[i]? = some v → J i m₁ → Fr h₀ env.locals s₂.heap (fun y => if y = xc then some v else if y = xi then some (.int (i : Int) t) else m₁ y) → News h₀ env.locals s₂.heap (news ++ own) →
      wpAny (model prog w) A (execs body env) (StepE h₀ env.locals (news ++ own) (J (i + 1)) s₂) E s₂) ∧
    (∀ h' tk m', Fr h₀ env.locals h' m' → News h₀ env.locals h' news → J items.length m' → Q .next { s₁ with heap := h', toks := tk })
theorem forEnum {Q : Flow → Shared → Prop} {xi xc : Str} {pk pv pt pos : Pos} {x1 : Nat} {iter : Expr} {body : List Stmt} {m₀ : Str → Option Value} (_F : Fr h₀ env.locals s.heap m₀) (hh : A.handled = none)
    (hxi : env.kindOf xi = some .local) (hxc : env.kindOf xc = some .local) (hp : (env.scope.kind == .class || (env.scope.kind == .module && env.locals != env.globals)) = false)
    (h : wpAny (model prog w) A (eval iter env) (EnumAt prog w A h₀ env xi xc body Q E) E s)
    (hs : ∀ x, foldedSetIterable iter env x = pure x)
    (hE : PassesOwn (model prog w) A env E) :
    wpAny (model prog w) A (exec (.For (.Tuple [.Name xi pk, .Name xc pv] x1 pt) iter body [] pos) env) Q E s := by
  refine For_pair3 h₀ hh hxi hxc hp (wpAny_mono h (fun xv s₁ h₁ => ?_) fun _ _ e => e) hs hE
  obtain ⟨e, it, l, items, n, m, news, J, rfl, he, hit, hl, hei, hfr, hLe, hLi, n0e, n0i, F, N, h0, step, done⟩ := h₁.it
  refine wpAny_pyIter_enum he ?_
  have hle := hfr _ hl
  have hL : s₁.heap.IsList l items.toArray := ⟨_, (N _ hl).1, rfl, _, rfl⟩
  refine ⟨e, _, _, _, _, _, _, fun i v0 v1 => ∃ t, items[i]? = some v1 ∧ v0 = .int (i : Int) t, m, news, fun i m₁ news₁ => news₁ = news ∧ J i m₁, rfl, WalksT.enumerate hh e it l hei hle.1 hle.2 items.toArray, ?_, ?_, ?_, ?_, ⟨⟨_, he⟩, hit, hL⟩, F, N, ⟨rfl, h0⟩, ?_, ?_⟩
  · rintro i vals ⟨t, x, hx, rfl⟩
    exact ⟨_, _, rfl, t, by rw [List.getElem?_toArray] at hx; exact hx, rfl⟩
  · intro q
    rcases List.mem_cons.mp q with q | q
    · exact hLe q
    rcases List.mem_cons.mp q with q | q
    · exact hLi q
    · exact (N _ hl).2.1 (List.mem_singleton.mp q).symm
  · intro b hb
    rcases List.mem_cons.mp hb with rfl | hb
    · exact n0e
    · rw [List.mem_singleton.mp hb]; exact n0i
  · intro p hp q
    rcases List.mem_cons.mp q with q | q
    · exact (hfr p hp).1 q
    · exact (hfr p hp).2 (List.mem_singleton.mp q)
  · rintro i v0 v1 m₁ news₁ s₂ own hs₂ hi ⟨t, hv, rfl⟩ ⟨rfl, hJ⟩ _ _ F₂ N₂
    refine wpAny_mono (step i v1 t m₁ s₂ own hs₂ hv hJ F₂ (News.comm N₂)) (fun f s₃ h₃ => ?_) fun _ _ e => e
    obtain ⟨rfl, h', tk, m₂, rfl, F₃, N₃, hJ₃⟩ := h₃
    exact ⟨rfl, h', tk, m₂, _, rfl, F₃, News.comm N₃, rfl, rfl, hJ₃⟩
  · rintro h' tk m' news' F' N' _ ⟨rfl, hJ⟩
    rw [List.size_toArray] at hJ
    exact done h' tk m' F' N' hJ
structure TupAt (prog : Program) (w : World) (A : Around) (h₀ : Heap) (env : Env) (x : Str) (body : List Stmt) (Q : Flow → Shared → Prop) (E : Value → Shared → Prop) (xv : Value) (s₁ : Shared) : Prop where
  it : ∃ (ax : Addr) (items : List Value) (m : Str → Option Value) (news : List (Addr × Obj)) (J : Nat → (Str → Option Value) → Prop),
    xv = .ref ax ∧ (ax, ({ cls := .type "tuple", data := .seq items.toArray } : Obj)) ∈ news ∧ Fr h₀ env.locals s₁.heap m ∧ News h₀ env.locals s₁.heap news ∧ J 0 m ∧
    (∀ i v m₁ s₂ own, (∃ h tk, s₂ = { s₁ with heap := h, toks := tk }) → items[i]? = some v → J i m₁ → Fr h₀ env.locals s₂.heap (fun y => if y = x then some v else m₁ y) → News h₀ env.locals s₂.heap (news ++ own) →
      wpAny (model prog w) A (execs body env) (StepE h₀ env.locals (news ++ own) (J (i + 1)) s₂) E s₂) ∧
    (∀ h' tk m', Fr h₀ env.locals h' m' → News h₀ env.locals h' news → J items.length m' → Q .next { s₁ with heap := h', toks := tk })
theorem forTup {Q : Flow → Shared → Prop} {x : Str} {px pos : Pos} {iter : Expr} {body : List Stmt} {m₀ : Str → Option Value} (_F : Fr h₀ env.locals s.heap m₀) (hh : A.handled = none)
    (hx : env.kindOf x = some .local) (hp : (env.scope.kind == .class || (env.scope.kind == .module && env.locals != env.globals)) = false)
    (h : wpAny (model prog w) A (eval iter env) (TupAt prog w A h₀ env x body Q E) E s)
    (hs : ∀ x, foldedSetIterable iter env x = pure x)
    (hE : PassesOwn (model prog w) A env E) :
    wpAny (model prog w) A (exec (.For (.Name x px) iter body [] pos) env) Q E s := by
  refine For_inv3 h₀ hx hp (wpAny_mono h (fun xv s₁ h₁ => ?_) fun _ _ e => e) hs hE
  obtain ⟨ax, items, m, news, J, rfl, hmem, F, N, h0, step, done⟩ := h₁.it
  have hax : s₁.heap.IsTuple ax items.toArray := ⟨_, (N _ hmem).1, rfl, _, rfl⟩
  have haxlt : @LT.lt Nat _ ax s₁.heap.objs.size := Heap.lt_size (N _ hmem).1
  have hLlt : @LT.lt Nat _ env.locals s₁.heap.objs.size := F.ns.lt
  have hne : ax ≠ s₁.heap.objs.size := Nat.ne_of_lt haxlt
  refine wpAny_pyIter_tuple hax ?_
  have up : ∀ b o, s₁.heap.get? b = some o → (s₁.heap.push { cls := .type "tuple_iterator", data := .fields #[.ref ax, .int 0 0] }).get? b = some o := fun b o e => Heap.get?_push_of_some _ e
  have hit : (s₁.heap.push { cls := .type "tuple_iterator", data := .fields #[.ref ax, .int 0 0] }).get? s₁.heap.objs.size = some { cls := .type "tuple_iterator", data := .fields #[.ref ax, .int 0 0] } := Heap.get?_push_size _ rfl
  refine ⟨s₁.heap.objs.size, _, _, items.toArray.size, _, _, m, news, fun i m₁ nw => nw = news ∧ J i m₁, rfl, Walks.tuple hh s₁.heap.objs.size ax hne items.toArray, ?_, ?_, ?_, ⟨⟨_, hit, rfl, rfl⟩, hax.at fun o e => up _ _ e⟩, F.keeps up, N.grown up, ⟨rfl, h0⟩, ?_, ?_⟩
  · intro q
    rcases List.mem_cons.mp q with q | q
    · exact Nat.ne_of_lt hLlt q
    · exact (N _ hmem).2.1 (List.mem_singleton.mp q).symm
  · intro b hb
    rw [List.mem_singleton.mp hb]
    exact Heap.get?_none_of_le (Nat.le_trans F.above (Nat.le_of_lt hLlt))
  · intro p hp q
    exact Nat.ne_of_lt (Heap.lt_size (N p hp).1) (List.mem_singleton.mp q)
  · rintro i v m₁ news₁ s₂ own hs₂ hi hP ⟨rfl, hJ⟩ _ _ _ F₂ N₂
    have hv : items[i]? = some v := by rw [List.getElem?_toArray] at hP; exact hP
    refine wpAny_mono (step i v m₁ s₂ own hs₂ hv hJ F₂ (News.comm N₂)) (fun f s₃ h₃ => ?_) fun _ _ e => e
    obtain ⟨rfl, h', tk, m₂, rfl, F₃, N₃, hJ₃⟩ := h₃
    exact ⟨rfl, h', tk, m₂, _, rfl, F₃, News.comm N₃, rfl, rfl, hJ₃⟩
  · rintro h' tk m' news' F' N' _ ⟨rfl, hJ⟩
    rw [List.size_toArray] at hJ
    exact done h' tk m' F' N' hJ

theorem two_known {m : Str → Option Value} {k1 k2 : Str} {v1 v2 : Value} (h1 : m k1 = some v1) (h2 : m k2 = some v2) : m = fun y => if y = k1 then some v1 else if y = k2 then some v2 else m y := funext fun y => by
  by_cases a : y = k1
  · rw [if_pos a, a, h1]
  · rw [if_neg a]
    by_cases b : y = k2
    · rw [if_pos b, b, h2]
    · rw [if_neg b]
/-- a loop over enumerate(list) that keeps two names: one by a state, one as it is -/
structure EnumS {σ : Type} (prog : Program) (w : World) (A : Around) (h₀ : Heap) (env : Env) (xi xc : Str) (body : List Stmt) (st : σ → Value) (k1 k2 : Str) (v2 : Value) (G : Nat → σ → Prop) (Q : Flow → Shared → Prop) (E : Value → Shared → Prop) (xv : Value) (s₁ : Shared) : Prop where
  it : ∃ (e it l : Addr) (items : List Value) (n : Nat) (m : Str → Option Value) (news : List (Addr × Obj)) (b₀ : σ),
    xv = .ref e ∧ IsEnum s₁.heap e it 0 .none ∧ s₁.heap.IsListIter it l 0 ∧ (l, listOf items.toArray n) ∈ news ∧ e ≠ it ∧ (∀ p ∈ news, p.1 ≠ e ∧ p.1 ≠ it) ∧ env.locals ≠ e ∧ env.locals ≠ it ∧ h₀.get? e = none ∧ h₀.get? it = none ∧
    Fr h₀ env.locals s₁.heap m ∧ News h₀ env.locals s₁.heap news ∧ m k1 = some (st b₀) ∧ m k2 = some v2 ∧ G 0 b₀ ∧
    (∀ i v t b (mm : Str → Option Value) s₂ own, (∃ h tk, s₂ = { s₁ with heap := h, toks := tk }) → items[i]? = some v → G i b → Fr h₀ env.locals s₂.heap (fun y => if y = xc then some v else if y = xi then some (.int (i : Int) t) else if y = k1 then some (st b) else if y = k2 then some v2 else mm y) → News h₀ env.locals s₂.heap (news ++ own) →
      wpAny (model prog w) A (execs body env) (StepE h₀ env.locals (news ++ own) (fun m₂ => ∃ b, m₂ k1 = some (st b) ∧ m₂ k2 = some v2 ∧ G (i + 1) b) s₂) E s₂) ∧
    (∀ h' tk b (mm : Str → Option Value), Fr h₀ env.locals h' (fun y => if y = k1 then some (st b) else if y = k2 then some v2 else mm y) → News h₀ env.locals h' news → G items.length b → Q .next { s₁ with heap := h', toks := tk })
theorem forEnumS {σ : Type} (st : σ → Value) (k1 k2 : Str) (v2 : Value) (G : Nat → σ → Prop) {Q : Flow → Shared → Prop} {xi xc : Str} {pk pv pt pos : Pos} {x1 : Nat} {iter : Expr} {body : List Stmt} {m₀ : Str → Option Value} (_F : Fr h₀ env.locals s.heap m₀) (hh : A.handled = none)
    (hxi : env.kindOf xi = some .local) (hxc : env.kindOf xc = some .local) (hp : (env.scope.kind == .class || (env.scope.kind == .module && env.locals != env.globals)) = false)
    (h : wpAny (model prog w) A (eval iter env) (EnumS prog w A h₀ env xi xc body st k1 k2 v2 G Q E) E s)
    (hs : ∀ x, foldedSetIterable iter env x = pure x)
    (hE : PassesOwn (model prog w) A env E) :
    wpAny (model prog w) A (exec (.For (.Tuple [.Name xi pk, .Name xc pv] x1 pt) iter body [] pos) env) Q E s := by
  refine forEnum _F hh hxi hxc hp (wpAny_mono h (fun xv s₁ h₁ => ?_) fun _ _ e => e) hs hE
  obtain ⟨e, it, l, items, n, m, news, b₀, hxv, he, hit, hl, hei, hfr, hLe, hLi, n0e, n0i, F, N, h1, h2, h0, step, done⟩ := h₁.it
  refine ⟨e, it, l, items, n, m, news, fun i m₁ => ∃ b, m₁ k1 = some (st b) ∧ m₁ k2 = some v2 ∧ G i b, hxv, he, hit, hl, hei, hfr, hLe, hLi, n0e, n0i, F, N, ⟨b₀, h1, h2, h0⟩, ?_, ?_⟩
  · rintro i v t m₁ s₂ own hs₂ hv ⟨b, g1, g2, g⟩ F₂ N₂
    rw [two_known g1 g2] at F₂
    exact step i v t b _ s₂ own hs₂ hv g F₂ N₂
  · rintro h' tk m' F' N' ⟨b, g1, g2, g⟩
    rw [two_known g1 g2] at F'
    exact done h' tk b _ F' N' g
/-- a loop over a tuple whose body keeps the names -/
structure TupS (prog : Program) (w : World) (A : Around) (h₀ : Heap) (env : Env) (x : Str) (body : List Stmt) (M0 : Str → Option Value) (G : Nat → Prop) (Q : Flow → Shared → Prop) (E : Value → Shared → Prop) (xv : Value) (s₁ : Shared) : Prop where
  it : ∃ (ax : Addr) (items : List Value) (news : List (Addr × Obj)),
    xv = .ref ax ∧ (ax, ({ cls := .type "tuple", data := .seq items.toArray } : Obj)) ∈ news ∧ Fr h₀ env.locals s₁.heap M0 ∧ News h₀ env.locals s₁.heap news ∧ G 0 ∧
    (∀ i v s₂ own, (∃ h tk, s₂ = { s₁ with heap := h, toks := tk }) → items[i]? = some v → G i → Fr h₀ env.locals s₂.heap (fun y => if y = x then some v else M0 y) → News h₀ env.locals s₂.heap (news ++ own) →
      wpAny (model prog w) A (execs body env) (StepE h₀ env.locals (news ++ own) (fun m₂ => m₂ = (fun y => if y = x then some v else M0 y) ∧ G (i + 1)) s₂) E s₂) ∧
    (∀ h' tk vl, Fr h₀ env.locals h' (fun y => if y = x then vl else M0 y) → News h₀ env.locals h' news → G items.length → Q .next { s₁ with heap := h', toks := tk })
theorem forTupS (G : Nat → Prop) {Q : Flow → Shared → Prop} {x : Str} {px pos : Pos} {iter : Expr} {body : List Stmt} {M0 : Str → Option Value} (_F : Fr h₀ env.locals s.heap M0) (hh : A.handled = none)
    (hx : env.kindOf x = some .local) (hp : (env.scope.kind == .class || (env.scope.kind == .module && env.locals != env.globals)) = false)
    (h : wpAny (model prog w) A (eval iter env) (TupS prog w A h₀ env x body M0 G Q E) E s)
    (hs : ∀ x, foldedSetIterable iter env x = pure x)
    (hE : PassesOwn (model prog w) A env E) :
    wpAny (model prog w) A (exec (.For (.Name x px) iter body [] pos) env) Q E s := by
  refine forTup _F hh hx hp (wpAny_mono h (fun xv s₁ h₁ => ?_) fun _ _ e => e) hs hE
  obtain ⟨ax, items, news, hxv, hmem, F, N, h0, step, done⟩ := h₁.it
  have back : ∀ (a b : Option Value), (fun y => if y = x then a else (fun y => if y = x then b else M0 y) y) = fun y => if y = x then a else M0 y := fun a b => funext fun y => by
    by_cases q : y = x
    · simp only [if_pos q]
    · simp only [if_neg q]
  have self : M0 = fun y => if y = x then M0 x else M0 y := funext fun y => by
    by_cases q : y = x
    · rw [if_pos q, q]
    · rw [if_neg q]
  refine ⟨ax, items, M0, news, fun i m₁ => (∃ vl, m₁ = fun y => if y = x then vl else M0 y) ∧ G i, hxv, hmem, F, N, ⟨⟨_, self⟩, h0⟩, ?_, ?_⟩
  · rintro i v m₁ s₂ own hs₂ hv ⟨⟨vl, rfl⟩, g⟩ F₂ N₂
    rw [back] at F₂
    refine wpAny_mono (step i v s₂ own hs₂ hv g F₂ N₂) (fun f s₃ h₃ => ?_) fun _ _ e => e
    obtain ⟨rfl, h', tk, m₂, rfl, F₃, N₃, rfl, g₃⟩ := h₃
    exact ⟨rfl, h', tk, _, rfl, F₃, N₃, ⟨_, rfl⟩, g₃⟩
  · rintro h' tk m' F' N' ⟨⟨vl, rfl⟩, g⟩
    exact done h' tk vl F' N' g

theorem forEnumP {σ : Type} (st : σ → Value) (k1 k2 : Str) (G : Nat → σ → Prop) (b₀ : σ) {Q : Flow → Shared → Prop} {xi xc : Str} {pk pv pt pos : Pos} {x1 : Nat} {iter : Expr} {body : List Stmt} {m₀ : Str → Option Value} {D : Addr} {items : List Value} {n : Nat} {rest : List (Addr × Obj)}
    (F : Fr h₀ env.locals s.heap m₀) (N : News h₀ env.locals s.heap ((D, listOf items.toArray n) :: rest)) (hh : A.handled = none)
    (hxi : env.kindOf xi = some .local) (hxc : env.kindOf xc = some .local) (hp : (env.scope.kind == .class || (env.scope.kind == .module && env.locals != env.globals)) = false)
    (hs : ∀ x, foldedSetIterable iter env x = pure x) (hE : PassesOwn (model prog w) A env E)
    (hiter : ∀ Q' : Value → Shared → Prop, (∀ h' tk, IsEnum h' (s.heap.objs.size + 1) s.heap.objs.size 0 .none → h'.IsListIter s.heap.objs.size D 0 → (∀ b o, s.heap.get? b = some o → h'.get? b = some o) → Q' (.ref (s.heap.objs.size + 1)) { s with heap := h', toks := tk }) →
      wpAny (model prog w) A (eval iter env) Q' E s)
    (h1 : m₀ k1 = some (st b₀)) (h2 : m₀ k2 = some (.ref D)) (g0 : G 0 b₀)
    (step : ∀ i v t b (mm : Str → Option Value) h tk own, items[i]? = some v → G i b → Fr h₀ env.locals h (fun y => if y = xc then some v else if y = xi then some (.int (i : Int) t) else if y = k1 then some (st b) else if y = k2 then some (.ref D) else mm y) → News h₀ env.locals h ((D, listOf items.toArray n) :: (rest ++ own)) →
      wpAny (model prog w) A (execs body env) (StepE h₀ env.locals ((D, listOf items.toArray n) :: (rest ++ own)) (fun m₂ => ∃ b, m₂ k1 = some (st b) ∧ m₂ k2 = some (.ref D) ∧ G (i + 1) b) { s with heap := h, toks := tk }) E { s with heap := h, toks := tk })
    (done : ∀ h' tk b (mm : Str → Option Value), Fr h₀ env.locals h' (fun y => if y = k1 then some (st b) else if y = k2 then some (.ref D) else mm y) → News h₀ env.locals h' ((D, listOf items.toArray n) :: rest) → G items.length b → Q .next { s with heap := h', toks := tk }) :
    wpAny (model prog w) A (exec (.For (.Tuple [.Name xi pk, .Name xc pv] x1 pt) iter body [] pos) env) Q E s := by
  refine forEnumS st k1 k2 (.ref D) G F hh hxi hxc hp (hiter _ fun h' tk he hi hk => ?_) hs hE
  have hLlt : @LT.lt Nat _ env.locals s.heap.objs.size := F.ns.lt
  have h0le : @LE.le Nat _ h₀.objs.size s.heap.objs.size := Nat.le_trans F.above (Nat.le_of_lt hLlt)
  refine ⟨s.heap.objs.size + 1, s.heap.objs.size, D, items, n, m₀, _, b₀, rfl, he, hi, .head _, Nat.succ_ne_self _, fun p hp => ?_, Nat.ne_of_lt (Nat.lt_succ_of_lt hLlt), Nat.ne_of_lt hLlt, Heap.get?_none_of_le (Nat.le_succ_of_le h0le), Heap.get?_none_of_le h0le,
    F.keeps hk, N.grown hk, h1, h2, g0, ?_, ?_⟩
  · have : @LT.lt Nat _ p.1 s.heap.objs.size := Heap.lt_size (N p hp).1
    exact ⟨Nat.ne_of_lt (Nat.lt_succ_of_lt this), Nat.ne_of_lt this⟩
  · rintro i v t b mm s₂ own ⟨h, tk₂, rfl⟩ hv g F₂ N₂
    exact step i v t b mm h tk₂ own hv g F₂ N₂
  · intro h₂ tk₂ b mm F₂ N₂ g
    exact done h₂ tk₂ b mm F₂ N₂ g
theorem forTupP (G : Nat → Prop) {Q : Flow → Shared → Prop} {x : Str} {px pos : Pos} {iter : Expr} {body : List Stmt} {M0 : Str → Option Value} {ax : Addr} {items : List Value} {news : List (Addr × Obj)}
    (F : Fr h₀ env.locals s.heap M0) (N : News h₀ env.locals s.heap news) (hmem : (ax, ({ cls := .type "tuple", data := .seq items.toArray } : Obj)) ∈ news) (hh : A.handled = none)
    (hx : env.kindOf x = some .local) (hp : (env.scope.kind == .class || (env.scope.kind == .module && env.locals != env.globals)) = false)
    (hs : ∀ x, foldedSetIterable iter env x = pure x) (hE : PassesOwn (model prog w) A env E)
    (hiter : ∀ Q' : Value → Shared → Prop, (∀ tk, Q' (.ref ax) { s with toks := tk }) → wpAny (model prog w) A (eval iter env) Q' E s) (g0 : G 0)
    (step : ∀ i v h tk own, items[i]? = some v → G i → Fr h₀ env.locals h (fun y => if y = x then some v else M0 y) → News h₀ env.locals h (news ++ own) →
      wpAny (model prog w) A (execs body env) (StepE h₀ env.locals (news ++ own) (fun m₂ => m₂ = (fun y => if y = x then some v else M0 y) ∧ G (i + 1)) { s with heap := h, toks := tk }) E { s with heap := h, toks := tk })
    (done : ∀ h' tk vl, Fr h₀ env.locals h' (fun y => if y = x then vl else M0 y) → News h₀ env.locals h' news → G items.length → Q .next { s with heap := h', toks := tk }) :
    wpAny (model prog w) A (exec (.For (.Name x px) iter body [] pos) env) Q E s := by
  refine forTupS G F hh hx hp (hiter _ fun tk => ?_) hs hE
  refine ⟨ax, items, news, rfl, hmem, F, N, g0, ?_, ?_⟩
  · rintro i v s₂ own ⟨h, tk₂, rfl⟩ hv g F₂ N₂
    exact step i v h tk₂ own hv g F₂ N₂
  · intro h₂ tk₂ vl F₂ N₂ g
    exact done h₂ tk₂ vl F₂ N₂ g
end
end Mine
end
section
open PySem PySem.W PySem.Calls PyProof.Rows
set_option Elab.async false
set_option maxRecDepth 100000
set_option maxHeartbeats 4000000
namespace Mine
theorem three_known {m : Str → Option Value} {k1 k2 k3 : Str} {v1 v2 v3 : Value} (h1 : m k1 = some v1) (h2 : m k2 = some v2) (h3 : m k3 = some v3) : m = fun y => if y = k1 then some v1 else if y = k2 then some v2 else if y = k3 then some v3 else m y := funext fun y => by
  by_cases a : y = k1
  · rw [if_pos a, a, h1]
  · rw [if_neg a]
    by_cases b : y = k2
    · rw [if_pos b, b, h2]
    · rw [if_neg b]
      by_cases c : y = k3
      · rw [if_pos c, c, h3]
      · rw [if_neg c]
theorem push_led {h₀ h : Heap} {L D : Addr} {ws : List Value} {v : Value} {k : Nat} {rest : List (Addr × Obj)} (N : News h₀ L h ((D, listOf (ws.toArray.push v) k) :: rest)) : News h₀ L h ((D, listOf (ws ++ [v]).toArray k) :: rest) := by
  rw [show (ws ++ [v]).toArray = ws.toArray.push v by simp]; exact N
theorem fr_three {h₀ h : Heap} {L : Addr} {m : Str → Option Value} (F : Fr h₀ L h m) {k1 k2 k3 : Str} {v1 v2 v3 : Value} (h1 : m k1 = some v1) (h2 : m k2 = some v2) (h3 : m k3 = some v3) :
    Fr h₀ L h (fun y => if y = k1 then some v1 else if y = k2 then some v2 else if y = k3 then some v3 else m y) := by rw [← three_known h1 h2 h3]; exact F
section
variable {prog : Program} {w : World} {A : Around} {E : Value → Shared → Prop} {s : Shared} {env : Env} {h₀ : Heap}
/-- a loop over a list of the ground that keeps three names: one by a state, two as they are -/
theorem forLst3 {σ : Type} (st : σ → Tok → Value) (k1 k2 k3 : Str) {v2 v3 : Value} (b₀ : σ) {t₀ : Tok} {Q : Flow → Shared → Prop} {x : Str} {px pos : Pos} {iter : Expr} {body : List Stmt} {m₀ : Str → Option Value} {l : Addr} {items : List Value} {news : List (Addr × Obj)}
    (F : Fr h₀ env.locals s.heap m₀) (N : News h₀ env.locals s.heap news) (hl : h₀.IsList l items.toArray) (hh : A.handled = none)
    (hx : env.kindOf x = some .local) (hp : (env.scope.kind == .class || (env.scope.kind == .module && env.locals != env.globals)) = false)
    (hs : ∀ x, foldedSetIterable iter env x = pure x) (hE : PassesOwn (model prog w) A env E)
    (hiter : ∀ Q' : Value → Shared → Prop, (∀ tk, Q' (.ref l) { s with toks := tk }) → wpAny (model prog w) A (eval iter env) Q' E s)
    (h1 : m₀ k1 = some (st b₀ t₀)) (h2 : m₀ k2 = some v2) (h3 : m₀ k3 = some v3)
    (step : ∀ (i : Nat) v b t (mm : Str → Option Value) h tk own, items[i]? = some v → Fr h₀ env.locals h (fun y => if y = x then some v else if y = k1 then some (st b t) else if y = k2 then some v2 else if y = k3 then some v3 else mm y) → News h₀ env.locals h (news ++ own) →
      wpAny (model prog w) A (execs body env) (StepE h₀ env.locals (news ++ own) (fun m₂ => ∃ b t, m₂ k1 = some (st b t) ∧ m₂ k2 = some v2 ∧ m₂ k3 = some v3) { s with heap := h, toks := tk }) E { s with heap := h, toks := tk })
    (done : ∀ h' tk b t (mm : Str → Option Value), Fr h₀ env.locals h' (fun y => if y = k1 then some (st b t) else if y = k2 then some v2 else if y = k3 then some v3 else mm y) → News h₀ env.locals h' news → Q .next { s with heap := h', toks := tk }) :
    wpAny (model prog w) A (exec (.For (.Name x px) iter body [] pos) env) Q E s := by
  refine For_inv3 h₀ hx hp (hiter _ fun tk => ?_) hs hE
  have hls : s.heap.IsList l items.toArray := hl.at fun o e => F.keep l o e
  obtain ⟨ol, hol, _⟩ := id hl
  have hlt : @LT.lt Nat _ l h₀.objs.size := Heap.lt_size hol
  have hLlt : @LT.lt Nat _ env.locals s.heap.objs.size := F.ns.lt
  have h0L : @LE.le Nat _ h₀.objs.size env.locals := F.above
  have hne : l ≠ s.heap.objs.size := Nat.ne_of_lt (Nat.lt_trans (Nat.lt_of_lt_of_le hlt h0L) hLlt)
  refine wpAny_pyIter_list hls ?_
  have up : ∀ b o, s.heap.get? b = some o → (s.heap.push { cls := .type "list_iterator", data := .fields #[.ref l, .int 0 0] }).get? b = some o := fun b o e => Heap.get?_push_of_some _ e
  have hit : (s.heap.push { cls := .type "list_iterator", data := .fields #[.ref l, .int 0 0] }).get? s.heap.objs.size = some { cls := .type "list_iterator", data := .fields #[.ref l, .int 0 0] } := Heap.get?_push_size _ rfl
  refine ⟨s.heap.objs.size, _, _, items.toArray.size, _, _, m₀, news, fun i m₁ nw => nw = news ∧ ∃ b t, m₁ k1 = some (st b t) ∧ m₁ k2 = some v2 ∧ m₁ k3 = some v3, rfl, Walks.list hh s.heap.objs.size l hne items.toArray, ?_, ?_, ?_, ⟨⟨_, hit, rfl, rfl⟩, hls.at fun o e => up _ _ e⟩, F.keeps up, N.grown up, ⟨rfl, b₀, t₀, h1, h2, h3⟩, ?_, ?_⟩
  · intro q
    rcases List.mem_cons.mp q with q | q
    · exact Nat.ne_of_lt hLlt q
    · exact Nat.ne_of_gt (Nat.lt_of_lt_of_le hlt h0L) (List.mem_singleton.mp q)
  · intro b hb
    rw [List.mem_singleton.mp hb]
    exact Heap.get?_none_of_le (Nat.le_trans h0L (Nat.le_of_lt hLlt))
  · intro p hp q
    exact Nat.ne_of_lt (Heap.lt_size (N p hp).1) (List.mem_singleton.mp q)
  · rintro i v m₁ news₁ s₂ own ⟨h, tk₂, rfl⟩ hi hP ⟨rfl, b, t, g1, g2, g3⟩ _ _ _ F₂ N₂
    have hv : items[i]? = some v := by rw [List.getElem?_toArray] at hP; exact hP
    rw [three_known g1 g2 g3] at F₂
    refine wpAny_mono (step i v b t _ h tk₂ own hv F₂ (News.comm N₂)) (fun f s₃ h₃ => ?_) fun _ _ e => e
    obtain ⟨rfl, h', tk, m₂, rfl, F₃, N₃, b', t', e1, e2, e3⟩ := h₃
    exact ⟨rfl, h', tk, m₂, _, rfl, F₃, News.comm N₃, rfl, rfl, b', t', e1, e2, e3⟩
  · rintro h' tk m' news' F' N' _ ⟨rfl, b, t, g1, g2, g3⟩
    rw [three_known g1 g2 g3] at F'
    exact done h' tk b t _ F' N'
structure WStep (I : Nat → Heap → Prop) (n : Nat) (s : Shared) (f : Flow) (s₃ : Shared) : Prop where
  fl : f = .next
  to : ∃ m h' tk', m < n ∧ s₃ = { s with heap := h', toks := tk' } ∧ I m h'
/-- a while whose measure falls, over frames that keep three names and a head of the ledger -/
theorem whileL {test : Expr} {body : List Stmt} {pos : Pos} {Q : Flow → Shared → Prop} (I : Nat → Heap → Prop) (n : Nat) (h0 : I n s.heap) (hE : PassesOwn (model prog w) A env E)
    (turn : ∀ n h tk, I n h → wpAny (model prog w) A (isTrue test env (eval test env)) (fun b s₂ => if b then wpAny (model prog w) A (execs body env) (WStep I n s) E s₂
      else Q .next s₂) E { s with heap := h, toks := tk }) :
    wpAny (model prog w) A (exec (.While test body [] pos) env) Q E s := by
  refine wpAny_While ?_
  refine codeAny_whileLoop (fun k s' => ∃ h tk, s' = { s with heap := h, toks := tk } ∧ I k h) ?_ n ⟨s.heap, s.toks, rfl, h0⟩
  rintro k s' ⟨h, tk, rfl, hI⟩
  refine wpAny_mono (turn k h tk hI) (fun b s₂ h₂ => ?_) fun e s' he => hE e s' he
  cases b with
  | true =>
    simp only [if_true] at h₂ ⊢
    refine wpAny_mono h₂ (fun f s₃ h₃ => ?_) fun e s' he => hE e s' he
    obtain ⟨rfl, m, h', tk', hm, rfl, hI'⟩ := h₃
    exact ⟨m, hm, h', tk', rfl, hI'⟩
  | false =>
    simp only [Bool.false_eq_true, if_false] at h₂ ⊢
    exact wpAny_execs_nil h₂
theorem len_lst {p : Addr} {ws : List Value} {is : List Int} {n : Nat} {Q : Value → Shared → Prop} (hp : s.heap.get? p = some (listOf ws.toArray n)) (hI : IntsAre ws is) (h9 : is.length ≤ 9) (h : Q (.int (is.length : Int) (s.toks + 1)) { s with toks := s.toks + 1 + 1 }) :
    wpAny (model prog w) A (call (.builtin "len") [.ref p]) Q E s := by
  have e : ws.toArray.size = is.length := by rw [List.size_toArray]; exact hI.length
  refine Calls.call_len_list ⟨_, hp, rfl, _, rfl⟩ ?_ (by rw [e]; exact h)
  rw [e]; omega
theorem append1 {D L : Addr} {m : Str → Option Value} {ws : List Value} {nn : Nat} {v : Value} {Q : Value → Shared → Prop} (F : Fr h₀ L s.heap m) (N : News h₀ L s.heap [(D, listOf ws.toArray nn)]) (h9 : ws.length ≤ 9)
    (h : ∀ h' n', Fr h₀ L h' m → News h₀ L h' [(D, listOf (ws ++ [v]).toArray n')] → Q .none { s with heap := h' }) : wpAny (model prog w) A (call (.builtin "list.append") [.ref D, v]) Q E s := by
  have hD := N _ (.head _)
  refine wpAny_list_append_plain (items := ws.toArray) (hsz := by rw [List.size_toArray]; have : 16 ≤ sizeLine := by decide
                                                                  omega) ⟨nn, hD.1⟩ fun h6 hp6 hs6 => ?_
  obtain ⟨n6, hn6⟩ := hp6
  have up : ∀ b o, b ≠ D → s.heap.get? b = some o → h6.get? b = some o := fun b o hb e => hs6.extBut b o hb e
  refine h h6 n6 ⟨F.ns.at' fun o e => up _ o (Ne.symm hD.2.1) e, fun b o e => up b o (fun q => by rw [q, hD.2.2] at e; cases e) (F.keep b o e), F.above⟩ fun q hq => ?_
  rw [List.mem_singleton.mp hq]
  exact ⟨by rw [hn6]; simp, hD.2.1, hD.2.2⟩
theorem appendN {D L : Addr} {m : Str → Option Value} {ws : List Value} {nn : Nat} {v : Value} {rest : List (Addr × Obj)} {Q : Value → Shared → Prop} (F : Fr h₀ L s.heap m) (N : News h₀ L s.heap ((D, listOf ws.toArray nn) :: rest)) (hne : ∀ p ∈ rest, p.1 ≠ D) (hw : ws.length ≤ 300)
    (h : ∀ h' n', Fr h₀ L h' m → News h₀ L h' ((D, listOf (ws ++ [v]).toArray n') :: rest) → Q .none { s with heap := h' }) : wpAny (model prog w) A (call (.builtin "list.append") [.ref D, v]) Q E s := by
  have hD := N _ (.head _)
  refine wpAny_list_append_plain (items := ws.toArray) (hsz := by rw [List.size_toArray]; have : 301 ≤ sizeLine := by decide
                                                                  omega) ⟨nn, hD.1⟩ fun h6 hp6 hs6 => ?_
  obtain ⟨n6, hn6⟩ := hp6
  have up : ∀ b o, b ≠ D → s.heap.get? b = some o → h6.get? b = some o := fun b o hb e => hs6.extBut b o hb e
  refine h h6 n6 ⟨F.ns.at' fun o e => up _ o (Ne.symm hD.2.1) e, fun b o e => up b o (fun q => by rw [q, hD.2.2] at e; cases e) (F.keep b o e), F.above⟩ fun q hq => ?_
  rcases List.mem_cons.mp hq with rfl | hq
  · exact ⟨by rw [hn6]; simp, hD.2.1, hD.2.2⟩
  · exact ⟨up _ _ (hne _ hq) (N _ (.tail _ hq)).1, (N _ (.tail _ hq)).2⟩
theorem ints_snoc {ws : List Value} {is : List Int} (h : IntsAre ws is) (n : Int) (t : Tok) : IntsAre (ws ++ [.int n t]) (is ++ [n]) := by
  induction h with
  | nil => exact .cons n t .nil
  | cons a b _ ih => exact .cons a b ih
end
end Mine
end
section
open PySem PySem.W PySem.Calls PyProof.Rows
set_option Elab.async false
set_option maxRecDepth 100000
set_option maxHeartbeats 2000000
namespace Mine
local macro_rules | `(tactic| walk_at "call ref") => `(tactic| (k_here; kts_any; k_dflt (refine wpAny_call ?_; (refine' enterTry ?k1 ?k2 ?k3 ?k4 ?k5 ?kA ?kF ?kE ?k6 ?k7 ?k8 ?k9 ?kB ?_ ?c2 ?c3 ?c4 ?c5; (case kA => exact rfl); (case kF => exact rfl); (case kE => exact rfl); (case k2 => k_asm); (case k1 => k_asm); (case k3 => k_asm); (case k4 => k_asm); (case k5 => k_asm); (case k6 => k_is); (case k7 => k_is); (case k8 => k_room); (case k9 => first | exact binds_K (by k_in) rfl (by k_is) rfl rfl rfl | exact BindsTo.of_eq rfl | fail "no rule for these arguments"); (case kB => exact locs rfl); (case c2 => exact rfl); (case c3 => exact rfl); (case c4 => exact rfl); (case c5 => decide); k_whole; intro g' L' h' FG' F' N' B' X' T' D'; (try dsimp only); (try k_lift B'); (try k_fold)))))
local macro_rules | `(tactic| walk_at "exec While Compare cons nil") => `(tactic| (k_here; refine Stop.mk ?_))
local macro_rules | `(tactic| walk_at "exec For") => `(tactic| (k_here; refine Stop.mk ?_))
local macro_rules | `(tactic| walk_at "call builtin:len") => `(tactic| (k_here; (with_reducible rename News _ _ _ _ => nN); (with_reducible rename IntsAre _ _ => iI); (with_reducible rename List.length _ ≤ 9 => i9); (k_dflt (refine' len_lst (nN _ (.head _)).1 iI i9 ?_; k_whole))))
local macro_rules | `(tactic| walk_at "call builtin:list.append") => `(tactic| (k_here; (with_reducible rename News _ _ _ _ => nN); (with_reducible rename Fr _ _ _ _ => fF); (with_reducible rename IntsAre _ _ => iI); (with_reducible rename List.length _ ≤ 9 => i9); (k_dflt (refine' appendN fF nN ?n ?w ?_; (case n => assumption); (case w => (rw [iI.length]; exact Nat.le_trans i9 (by decide))); k_whole)); intro h' n' F' N'))

set_option pp.deepTerms false in
theorem num1 : ∀ (w : World) (mean : ExcName → Option Value) (mg mb : Str → Option Value) (L a : Addr) (ccd : Value) (h₀ : Heap) (m : Str → Option Value) (s : Shared) (Q : Value → Shared → Prop) (E : Value → Shared → Prop) (l : Addr) (vs : List Value) (ns : List Int) (t0 : Tok) (x1 x2 x3 : Addr × Obj) (d1 d2 d3 : Option Value)
  (_ : Below callerA h₀ [] h₀) (_ : Fr h₀ L s.heap m) (_ : (hd.heap_39 w.params).In h₀) (_ : News h₀ L s.heap [x1, x2, x3]) (_ : x1.2.data = .cell d1) (_ : x2.2.data = .cell d2) (_ : x3.2.data = .cell d3) (_ : Top hd.view_39 (looseW hd.view_39 []) mean mg mb h₀) (_ : h₀.IsList l vs.toArray) (_ : IntsAre vs ns) (_ : ns.length ≤ 63)
  (_ : ∀ (h' : Heap) (tk' : Tok) (f : Addr) (n : Nat) (ws : List Value) (is : List Int), IntsAre ws is → is.length = 9 → Fr h₀ L h' m → News h₀ L h' [(f, listOf ws.toArray n), x1, x2, x3] → Q (.ref f) { s with heap := h', toks := tk' }),
  wpAny (model Challenge.rw_ax6025_01.row.prog w) (callerA.deeper (lawEnv L a ccd)) (call (.ref 86) [.ref l, .int 9 t0]) Q E s := by
  w_on
  k_fill
  intros
  rename_i w mean mg mb L a ccd h₀ m s Q E l vs ns t0 x1 x2 x3 d1 d2 d3 B F X N e1 e2 e3 T hl hi hn hQ
  k_steps
  unfold Stop
  rename Fr _ _ _ _ => F9
  rename News _ _ _ _ => N9
  rename IntsAre _ (List.map _ _) => hY
  rename _ ≠ _ ∧ _ ≠ _ ∧ _ ≠ _ ∧ _ ≠ _ => o9
  have hne9 : ∀ p ∈ [x1, x2, x3], p.1 ≠ _ := fun p hp => by
    simp only [List.mem_cons, List.not_mem_nil, or_false] at hp
    rcases hp with rfl | rfl | rfl
    · exact o9.2.1
    · exact o9.2.2.1
    · exact o9.2.2.2
  replace F9 := fr_three F9 (k1 := Str.ofString "last") (k2 := Str.ofString "found") (k3 := Str.ofString "many") (v1 := .int _ _) (v2 := .ref _) (v3 := .int 9 t0) rfl rfl rfl
  refine whileL (fun k h => ∃ (b : Int) (t : Tok) (mm : Str → Option Value) (ws : List Value) (is : List Int) (nn : Nat), IntsAre ws is ∧ is.length ≤ 9 ∧ k = 9 - is.length ∧ Fr _ _ h (fun y => if y = Str.ofString "last" then some (.int b t) else if y = Str.ofString "found" then some (.ref _) else if y = Str.ofString "many" then some (.int 9 t0) else mm y) ∧ News _ _ h [(_, listOf ws.toArray nn), x1, x2, x3]) _ ⟨_, _, _, _, _, _, hY, ?h9, rfl, F9, News.sub N9 (.cons₂ _ (.cons _ (.refl _)))⟩ (by passes_own) ?turn
  case h9 => (rw [List.length_map, List.length_take]; exact Nat.min_le_left _ _)
  case turn =>
    clear F9 N9 hY
    rintro k h2 tk2 ⟨b2, t2, mm2, ws, is, nn, hI9, h9, rfl, F1, N1⟩
    k_steps
    · rename Fr _ _ _ _ => F9
      rename News _ _ _ _ => N9
      rename IntsAre ws is => iI
      replace F9 := fr_three F9 (k1 := Str.ofString "last") (k2 := Str.ofString "found") (k3 := Str.ofString "many") (v1 := .int _ _) (v2 := .ref _) (v3 := .int 9 t0) rfl rfl rfl
      have N8 := N9
      refine ⟨rfl, _, _, _, ?lt, rfl, _, _, _, _, _, _, ints_snoc iI _ _, ?l9, rfl, F9, N8⟩
      case l9 => (rw [List.length_append]; simp only [List.length_cons, List.length_nil]; omega)
      case lt => (rw [List.length_append]; simp only [List.length_cons, List.length_nil]; omega)
    · rename Fr _ _ _ _ => F9
      rename News _ _ _ _ => N9
      rename IntsAre ws is => iI
      exact hQ _ _ _ _ ws is iI (by omega) F9 N9
end Mine
end
section
open PySem PySem.W PySem.Calls PyProof.Rows
set_option Elab.async false
set_option maxRecDepth 100000
set_option maxHeartbeats 4000000
namespace Mine
section
variable {prog : Program} {w : World} {A : Around} {E : Value → Shared → Prop} {s : Shared} {env : Env} {h₀ : Heap} {L : Addr} {m : Str → Option Value}
/-- what a comprehension [x for x in list if test] asks, behind its iterable -/
structure LstNext (prog : Program) (w : World) (A : Around) (env : Env) (h₀ : Heap) (L : Addr) (m : Str → Option Value) (test : Expr) (x : Str) (scope : Scope) (cl : List (Str × Addr)) (bad : Value → Bool) (Q : Value → Shared → Prop) (xv : Value) (s₁ : Shared) : Prop where
  it : ∃ (ax : Addr) (items : List Value) (kk : Nat) (news : List (Addr × Obj)), xv = .ref ax ∧ items.length ≤ sizeLine ∧
      Fr h₀ L s₁.heap m ∧ News h₀ L s₁.heap news ∧ (ax, listOf items.toArray kk) ∈ news ∧
      (∀ (v : Value) ys C D oC own k h tk E' mC, v ∈ items → Fr h₀ L h m → News h₀ L h ((C, oC) :: (D, listOf ys k) :: (news ++ own)) → h.Ns C mC → mC x = some v → C ≠ D →
        wpAny (model prog w) A (isTrue test (compEnvC scope cl C env) (eval test (compEnvC scope cl C env))) (fun ok s₄ => ok = bad v ∧ ∃ h' tk', s₄ = { s₁ with heap := h', toks := tk' } ∧ Fr h₀ L h' m ∧ News h₀ L h' ((C, oC) :: (D, listOf ys k) :: (news ++ own))) E' { s₁ with heap := h, toks := tk }) ∧
      (∀ D k h' tk, Fr h₀ L h' m → News h₀ L h' ((D, listOf (items.filter bad).toArray k) :: news) → Q (.ref D) { s₁ with heap := h', toks := tk })
theorem compF {iter test : Expr} {x : Str} {px py : Pos} {scope : Scope} {cl : List (Str × Addr)} {pos : Pos} {Q : Value → Shared → Prop} (bad : Value → Bool) (_F0 : Fr h₀ L s.heap m)
    (hA : A.handled = none) (hclos : closureFor scope env = pure cl) (hcell : ∀ y ∈ scope.names, y.2 ≠ .cell) (hkind : scope.kind = .function)
    (hnames : ∀ y ∈ scope.names, y.2 = .local → scope.names.lookup y.1 = some .local) (hx : scope.names.lookup x = some .local)
    (h : wpAny (model prog w) A (eval iter env) (LstNext prog w A env h₀ L m test x scope cl bad Q) E s)
    (hs : ∀ x, foldedSetIterable iter env x = pure x := by intro _; rfl) (hd : (x == ("__debug__" : Str)) = false := by decide) :
    wpAny (model prog w) A (eval (.ListComp (.Name x py) [⟨.Name x px, iter, [test], 0⟩] scope pos) env) Q E s := by
  refine compJ (h₀ := h₀) (L := L) (m := m) hclos hcell hkind hnames hx (wpAny_mono h (fun xv s₁ h₁ => ?_) fun _ _ e => e) hs
  obtain ⟨ax, items, kk, news, rfl, hsz, F, N, hmem, step, done⟩ := h₁.it
  have hax : s₁.heap.IsList ax items.toArray := ⟨_, (N _ hmem).1, rfl, _, rfl⟩
  have haxlt : @LT.lt Nat _ ax s₁.heap.objs.size := Heap.lt_size (N _ hmem).1
  have hLlt : @LT.lt Nat _ L s₁.heap.objs.size := F.ns.lt
  have hne : ax ≠ s₁.heap.objs.size := Nat.ne_of_lt haxlt
  refine wpAny_pyIter_list hax ?_
  have up : ∀ b o, s₁.heap.get? b = some o → (s₁.heap.push { cls := .type "list_iterator", data := .fields #[.ref ax, .int 0 0] }).get? b = some o := fun b o e => Heap.get?_push_of_some _ e
  have hit : (s₁.heap.push { cls := .type "list_iterator", data := .fields #[.ref ax, .int 0 0] }).get? s₁.heap.objs.size = some { cls := .type "list_iterator", data := .fields #[.ref ax, .int 0 0] } := Heap.get?_push_size _ rfl
  have F₂ := F.keeps up
  have N₂ := N.grown up
  refine ⟨s₁.heap.objs.size, _, _, items.toArray.size, _, _, news, fun i ys nw => nw = news ∧ ys = (items.take i).filter bad, rfl, Walks.list hA s₁.heap.objs.size ax hne items.toArray, by rw [List.size_toArray]; exact hsz, ⟨⟨_, hit, rfl, rfl⟩, hax.at fun o e => up _ _ e⟩, ?_, ?_, ?_, ?_, F₂, N₂, ⟨rfl, rfl⟩, ?_, ?_, ?_⟩
  · intro b hb
    show @LT.lt Nat _ b (s₁.heap.push _).objs.size
    rw [Heap.size_push]
    rcases List.mem_cons.mp hb with rfl | hb
    · exact Nat.lt_succ_self _
    · rw [List.mem_singleton.mp hb]; exact Nat.lt_succ_of_lt haxlt
  · intro q
    rcases List.mem_cons.mp q with q | q
    · exact Nat.ne_of_lt hLlt q
    · exact (N _ hmem).2.1 (List.mem_singleton.mp q).symm
  · intro b hb
    rw [List.mem_singleton.mp hb]
    exact Heap.get?_none_of_le (Nat.le_trans F.above (Nat.le_of_lt hLlt))
  · intro p hp q
    exact Nat.ne_of_lt (Heap.lt_size (N p hp).1) (List.mem_singleton.mp q)
  · rintro i ys nw ⟨_, rfl⟩
    exact Nat.le_trans (List.length_filter_le _ _) (by rw [List.length_take]; exact Nat.min_le_left _ _)
  · intro i v ys news₁ C D oC k h tk own E' hi hP hJ F₃ N₃ hC hCD _ hnw
    obtain ⟨rfl, rfl⟩ := hJ
    have hv : items[i]? = some v := by rw [List.getElem?_toArray] at hP; exact hP
    obtain ⟨mC, hNs, hm⟩ := hC h (N₃ _ (.head _)).1
    simp only [List.forIn_cons, List.forIn_nil, if_true, bind_assoc, pure_bind]
    refine wpAny_bind (wpAny_mono (step v ((items.take i).filter bad).toArray C D oC own k h tk E' mC (List.mem_of_getElem? hv) F₃ N₃ hNs hm hCD) (fun ok s₄ h₄ => ?_) fun _ _ e => e)
    obtain ⟨rfl, h', tk', rfl, F₄, N₄⟩ := h₄
    show wpAny _ _ (pure (bad v)) _ _ _
    refine wpAny_pure ?_
    have ht : (items.take (i + 1)).filter bad = (items.take i).filter bad ++ (if bad v then [v] else []) := take_succ_filter bad items i v hv
    cases hb : bad v with
    | false =>
      simp only [Bool.false_eq_true, if_false]
      exact CEnd.intro news₁ F₄ N₄ (fun p hp => hp) hnw ⟨rfl, by rw [ht, hb]; simp⟩
    | true =>
      simp only [if_true]
      obtain ⟨mC', hNs', hm'⟩ := hC h' (N₄ _ (.head _)).1
      refine wpAny_Name (wpAny_loadName_local hkind (lookup_relabel_local hx) hNs' hm' ?_) hd
      exact CEnd.intro news₁ F₄ N₄ (fun p hp => hp) hnw ⟨rfl, by rw [ht, hb]; simp⟩
  · rintro D k ys news₁ h' tk ⟨rfl, rfl⟩ F₃ N₃ hne3
    have : items.take items.toArray.size = items := by rw [List.size_toArray]; exact List.take_length
    rw [this] at N₃
    exact done D k h' tk F₃ N₃
def badV : Value → Bool
  | .int i _ => decide (i < 0)
  | _ => true
end
end Mine
end
section
open PySem PySem.W PySem.Calls PyProof.Rows
set_option Elab.async false
set_option maxRecDepth 100000
set_option maxHeartbeats 4000000
namespace Mine
theorem ints_snoc' {ws : List Value} {is : List Int} (h : IntsAre ws is) (n : Int) (t : Tok) : IntsAre (ws ++ [.int n t]) (is ++ [n]) := by
  induction h with
  | nil => exact .cons n t .nil
  | cons a b _ ih => exact .cons a b ih
section
variable {prog : Program} {w : World} {A : Around} {E : Value → Shared → Prop} {s : Shared} {env : Env} {h₀ : Heap} {L : Addr} {m : Str → Option Value}
/-- what a comprehension of ints over a range asks, behind its iterable -/
structure RngNext (prog : Program) (w : World) (A : Around) (env : Env) (h₀ : Heap) (L : Addr) (m : Str → Option Value) (elt : Expr) (x : Str) (scope : Scope) (cl : List (Str × Addr)) (ok : Int → Prop) (Q : Value → Shared → Prop) (xv : Value) (s₁ : Shared) : Prop where
  it : ∃ (r : Addr) (n : Nat) (t u v : Tok) (news : List (Addr × Obj)), xv = .ref r ∧ IsRange s₁.heap r 0 n 1 t u v ∧ n ≤ 300 ∧ Fr h₀ L s₁.heap m ∧ News h₀ L s₁.heap news ∧
      (∀ (i : Nat) t0 ys C D oC own k h tk E' mC, i < n → Fr h₀ L h m → News h₀ L h ((C, oC) :: (D, listOf ys k) :: (news ++ own)) → h.Ns C mC → mC x = some (.int (i : Int) t0) → C ≠ D →
        wpAny (model prog w) A (eval elt (compEnvC scope cl C env)) (fun y s₄ => (∃ z t', y = .int z t' ∧ ok z) ∧ ∃ h' tk', s₄ = { s₁ with heap := h', toks := tk' } ∧ Fr h₀ L h' m ∧ News h₀ L h' ((C, oC) :: (D, listOf ys k) :: (news ++ own))) E' { s₁ with heap := h, toks := tk }) ∧
      (∀ D k h' tk ys zs, Fr h₀ L h' m → News h₀ L h' ((D, listOf ys.toArray k) :: news) → (∀ p ∈ news, p.1 ≠ D) → IntsAre ys zs → zs.length = n → (∀ z ∈ zs, ok z) → Q (.ref D) { s₁ with heap := h', toks := tk })
theorem compR {elt iter : Expr} {x : Str} {px : Pos} {scope : Scope} {cl : List (Str × Addr)} {pos : Pos} {Q : Value → Shared → Prop} (ok : Int → Prop) (_F0 : Fr h₀ L s.heap m)
    (hA : A.handled = none) (hclos : closureFor scope env = pure cl) (hcell : ∀ y ∈ scope.names, y.2 ≠ .cell) (hkind : scope.kind = .function)
    (hnames : ∀ y ∈ scope.names, y.2 = .local → scope.names.lookup y.1 = some .local) (hx : scope.names.lookup x = some .local)
    (h : wpAny (model prog w) A (eval iter env) (RngNext prog w A env h₀ L m elt x scope cl ok Q) E s)
    (hs : ∀ x, foldedSetIterable iter env x = pure x := by intro _; rfl) :
    wpAny (model prog w) A (eval (.ListComp elt [⟨.Name x px, iter, [], 0⟩] scope pos) env) Q E s := by
  refine compJ (h₀ := h₀) (L := L) (m := m) hclos hcell hkind hnames hx (wpAny_mono h (fun xv s₁ h₁ => ?_) fun _ _ e => e) hs
  obtain ⟨r, n, t, u, v, news, rfl, hr, hn, F, N, step, done⟩ := h₁.it
  have hsize : Builtin.Range.rangeSize 0 (n : Int) 1 = (n : Int) := by
    unfold Builtin.Range.rangeSize
    simp
    omega
  have hsmall : Builtin.Range.small 0 (n : Int) 1 = true := by
    unfold Builtin.Range.small
    rw [hsize]
    unfold Builtin.Range.rangeFitsLong
    simp
    omega
  have hLlt : @LT.lt Nat _ L s₁.heap.objs.size := F.ns.lt
  refine wpAny_pyIter_range hr hsmall ?_
  have up : ∀ b o, s₁.heap.get? b = some o → (s₁.heap.push { cls := .type "range_iterator", data := .fields #[rawInt 0, rawInt (Builtin.Range.rangeSize 0 (n : Int) 1), rawInt 1] }).get? b = some o := fun b o e => Heap.get?_push_of_some _ e
  have hit : (s₁.heap.push { cls := .type "range_iterator", data := .fields #[rawInt 0, rawInt (Builtin.Range.rangeSize 0 (n : Int) 1), rawInt 1] }).get? s₁.heap.objs.size = some { cls := .type "range_iterator", data := .fields #[rawInt 0, rawInt (Builtin.Range.rangeSize 0 (n : Int) 1), rawInt 1] } := Heap.get?_push_size _ rfl
  have F₂ := F.keeps up
  have N₂ := N.grown up
  have hnI : ∀ p ∈ news, p.1 ∉ [s₁.heap.objs.size] := fun p hp q => Nat.ne_of_lt (Heap.lt_size (N p hp).1) (List.mem_singleton.mp q)
  refine ⟨s₁.heap.objs.size, _, _, n, _, _, news, fun i ys nw => nw = news ∧ ∃ zs, IntsAre ys zs ∧ zs.length = i ∧ ∀ z ∈ zs, ok z, rfl, Walks.range hA s₁.heap.objs.size 0 1 n, ?_, ?_, ?_, ?_, ?_, hnI, F₂, N₂, ⟨rfl, [], .nil, rfl, fun z hz => nomatch hz⟩, ?_, ?_, ?_⟩
  · have : 300 ≤ sizeLine := by decide
    omega
  · show IsRangeIter _ _ _ _ _
    rw [hsize] at hit ⊢
    simpa using hit
  · intro b hb
    rw [List.mem_singleton.mp hb]
    show @LT.lt Nat _ s₁.heap.objs.size (s₁.heap.push _).objs.size
    rw [Heap.size_push]; exact Nat.lt_succ_self _
  · intro q; exact Nat.ne_of_lt hLlt (List.mem_singleton.mp q)
  · intro b hb
    rw [List.mem_singleton.mp hb]
    exact Heap.get?_none_of_le (Nat.le_trans F.above (Nat.le_of_lt hLlt))
  · rintro i ys nw ⟨_, zs, hz, hl, _⟩
    rw [hz.length, hl]; exact Nat.le_refl _
  · intro i v ys news₁ C D oC k h tk own E' hi hP hJ F₃ N₃ hC hCD _ hnw
    obtain ⟨rfl, zs, hz, hl, hok⟩ := hJ
    obtain ⟨t0, rfl⟩ := hP
    obtain ⟨mC, hNs, hm⟩ := hC h (N₃ _ (.head _)).1
    have e : (0 : Int) + (i : Nat) * 1 = (i : Int) := by omega
    rw [e] at hm
    simp only [List.forIn_nil]
    refine wpAny_pure ?_
    simp only [if_true]
    refine wpAny_mono (step i t0 ys.toArray C D oC own k h tk E' mC hi F₃ N₃ hNs hm hCD) (fun y s₄ h₄ => ?_) fun _ _ e => e
    obtain ⟨⟨z, t', rfl, hzok⟩, h', tk', rfl, F₄, N₄⟩ := h₄
    refine CEnd.intro news₁ F₄ N₄ (fun p hp => hp) hnw ⟨rfl, zs ++ [z], ints_snoc' hz z t', by rw [List.length_append, hl]; rfl, fun q hq => ?_⟩
    rcases List.mem_append.mp hq with hq | hq
    · exact hok q hq
    · rw [List.mem_singleton.mp hq]; exact hzok
  · rintro D k ys news₁ h' tk ⟨rfl, zs, hz, hl, hok⟩ F₃ N₃ hne3
    exact done D k h' tk ys zs F₃ N₃ hne3 hz hl hok
end
end Mine
end
section
open PySem PySem.W PySem.Calls PyProof.Rows
set_option Elab.async false
set_option maxRecDepth 100000
set_option maxHeartbeats 4000000
namespace Mine
/-- the palette's def, out of the given text -/
def palDef : Stmt := (PySem.Challenge.pw_ax6025_01.main.body.find? fun | .FunctionDef n .. => n == Str.ofString "_law_palette" | _ => false).getD (.Pass default)
def palStmts (k : Nat) : List Stmt := match palDef with
  | .FunctionDef _ _ b _ _ _ _ _ _ _ => b.drop k
  | _ => []
def palScope : Scope := match palDef with
  | .FunctionDef _ _ _ _ _ _ sc _ _ _ => sc
  | _ => default
abbrev palEnv (L a : Addr) (cd : Value) : Env := envOfC (Str.ofString "_law_palette") palScope L a cd
section
variable {prog : Program} {w : World} {A : Around} {E : Value → Shared → Prop} {s : Shared} {env : Env} {h₀ : Heap}
/-- how a turn over a range ends -/
structure StepR (h₀ : Heap) (L : Addr) (own : List (Addr × Obj)) (Jn : (Str → Option Value) → List (Addr × Obj) → Prop) (s₁ : Shared) (f : Flow) (s₂ : Shared) : Prop where
  fl : f = .next
  to : ∃ h' tk m₂ nw₂, s₂ = { s₁ with heap := h', toks := tk } ∧ Fr h₀ L h' m₂ ∧ News h₀ L h' (nw₂ ++ own) ∧ Jn m₂ nw₂
theorem forRangeT {Q : Flow → Shared → Prop} {target iter : Expr} {body : List Stmt} {pos : Pos} {n : Nat} {m₀ : Str → Option Value} {news : List (Addr × Obj)} (J : Nat → (Str → Option Value) → List (Addr × Obj) → Prop)
    (hh : A.handled = none) (F : Fr h₀ env.locals s.heap m₀) (N : News h₀ env.locals s.heap news) (hdat : ∀ i m nw, J i m nw → ∀ p ∈ nw, ∀ vs, p.2.data ≠ .fields vs)
    (hs : ∀ x, foldedSetIterable iter env x = pure x) (hE : PassesOwn (model prog w) A env E)
    (hiter : ∀ Q' : Value → Shared → Prop, (∀ r h' tk t u v, IsRange h' r 0 n 1 t u v → (∀ b o, s.heap.get? b = some o → h'.get? b = some o) → Q' (.ref r) { s with heap := h', toks := tk }) → wpAny (model prog w) A (eval iter env) Q' E s)
    (hsmall : Builtin.Range.small 0 (n : Int) 1 = true) (hsize : Builtin.Range.rangeSize 0 (n : Int) 1 = (n : Int)) (ht : ∀ it v, letOwnedTupleGo target it v = pure ()) (g0 : J 0 m₀ news)
    (step : ∀ (i : Nat) t m₁ nw (s₁ : Shared) own, i < n → J i m₁ nw → (∀ z ∈ own, ∀ y ∈ nw, y.1 ≠ z.1) → Fr h₀ env.locals s₁.heap m₁ → News h₀ env.locals s₁.heap (nw ++ own) →
      wpAny (model prog w) A (assign target env (.int (i : Int) t)) (fun _ s₃ => wpAny (model prog w) A (execs body env) (StepR h₀ env.locals own (J (i + 1)) s₁) E s₃) E s₁)
    (done : ∀ h' tk m' nw, Fr h₀ env.locals h' m' → News h₀ env.locals h' nw → J n m' nw → Q .next { s with heap := h', toks := tk }) :
    wpAny (model prog w) A (exec (.For target iter body [] pos) env) Q E s := by
  refine For_invT h₀ (hiter _ fun r h' tk t u v hr hk => ?_) hs hE
  refine wpAny_pyIter_range (s := { s with heap := h', toks := tk }) hr hsmall ?_
  have hLlt : @LT.lt Nat _ env.locals h'.objs.size := (F.keeps hk).ns.lt
  have up : ∀ b o, h'.get? b = some o → (h'.push { cls := .type "range_iterator", data := .fields #[rawInt 0, rawInt (Builtin.Range.rangeSize 0 (n : Int) 1), rawInt 1] }).get? b = some o := fun b o e => Heap.get?_push_of_some _ e
  have hit : (h'.push { cls := .type "range_iterator", data := .fields #[rawInt 0, rawInt (Builtin.Range.rangeSize 0 (n : Int) 1), rawInt 1] }).get? h'.objs.size = some { cls := .type "range_iterator", data := .fields #[rawInt 0, rawInt (Builtin.Range.rangeSize 0 (n : Int) 1), rawInt 1] } := Heap.get?_push_size _ rfl
  have F1 := F.keeps fun b o e => up b o (hk b o e)
  have N1 := N.grown fun b o e => up b o (hk b o e)
  dsimp only
  generalize h'.push { cls := .type "range_iterator", data := .fields #[rawInt 0, rawInt (Builtin.Range.rangeSize 0 (n : Int) 1), rawInt 1] } = H at *
  rw [hsize] at hit
  have nI : h₀.get? h'.objs.size = none := Heap.get?_none_of_le (Nat.le_trans F.above (Nat.le_of_lt hLlt))
  have apart : ∀ {h : Heap} {nw : List (Addr × Obj)} {o : Obj} {vs : Array Value}, (∀ p ∈ nw, h.get? p.1 = some p.2) → h.get? h'.objs.size = some o → o.data = .fields vs → (∀ p ∈ nw, ∀ vs, p.2.data ≠ .fields vs) → ∀ p ∈ nw, p.1 ∉ [h'.objs.size] := fun hN ho hd hx p hp q => by
    have q := List.mem_singleton.mp q
    have := hN p hp
    rw [q, ho] at this
    have : _ = p.2 := Option.some.inj this
    exact hx p hp _ (this ▸ hd)
  refine ⟨h'.objs.size, _, _, n, _, _, m₀, news, J, rfl, Walks.range hh h'.objs.size 0 1 n, ?_, ?_, ?_, ?_, F1, N1, ?_, g0, ?_, ?_⟩
  · intro q; exact Nat.ne_of_lt hLlt (List.mem_singleton.mp q)
  · intro b hb; rw [List.mem_singleton.mp hb]; exact nI
  · exact apart (fun p hp => (N1 p hp).1) hit rfl (hdat 0 _ _ g0)
  · show IsRangeIter H _ _ _ _
    simpa using hit
  · intro i s' v Q' _ hq
    rw [ht]; exact wpAny_pure hq
  · rintro i v m₁ nw s₁ own hi ⟨t', rfl⟩ hJ hnw hofp hoh hown hst F2 N2
    have e : (0 : Int) + (i : Nat) * 1 = (i : Int) := by omega
    rw [e]
    have hIown : (h'.objs.size, _) ∈ own := hown h'.objs.size (.head _) nI _ hst
    refine wpAny_mono (step i t' m₁ nw s₁ own hi hJ (fun z hz y hy q => hnw y hy (by rw [q]; exact hofp z hz)) F2 (News.comm N2)) (fun _ s₃ h₃ => wpAny_mono h₃ (fun f s₄ h₄ => ?_) fun _ _ e => e) fun _ _ e => e
    obtain ⟨rfl, h5, tk5, m₂, nw₂, rfl, F5, N5, hJ5⟩ := h₄
    exact ⟨rfl, h5, tk5, m₂, nw₂, rfl, F5, News.comm N5, apart (fun p hp => (N5 p (List.mem_append_left _ hp)).1) (N5 _ (List.mem_append_right _ hIown)).1 rfl (hdat _ _ _ hJ5), hJ5⟩
  · intro h5 tk5 m' nw F5 N5 _ hJ
    exact done h5 tk5 m' nw F5 N5 hJ
end
end Mine
end
section
open PySem PySem.W PySem.Calls PyProof.Rows PySem.SeqAt
set_option Elab.async false
set_option maxRecDepth 100000
namespace Mine
section
variable {A : Around} {s : Shared}
theorem eq_self (a : Addr) : EqAt A s (.ref a) (.ref a) true := fun prog w E Q h => by
  unfold eqBool
  refine wpAny_holding ?_
  refine wpAny_ite_split (fun _ => ?_) (fun hab => absurd rfl (fun q => hab (beq_iff_eq.mpr q)))
  exact wpAny_bind (wpAny_rule (wpAny_pure h))
theorem refs_get {es : List (Addr × Obj)} {j : Nat} (h1 : j < (refs es).toArray.size) : ∃ a, (refs es).toArray[j] = .ref a := by
  have h : j < es.length := by simpa [refs] using h1
  exact ⟨es[j].1, by simp [refs]⟩
theorem all_true (n : Nat) : (List.range n).all (fun _ => true) = true := by simp
/-- two lists of the very same refs are not unequal -/
theorem ne_refs {l b : Addr} {es : List (Addr × Obj)} {n k : Nat} (hl : s.heap.get? l = some (listOf (refs es).toArray n)) (hb : s.heap.get? b = some (listOf (refs es).toArray k)) (hu : A.units < cLine) : RcNeAt A s (.ref l) (.ref b) false := by
  have := RcNeAt.lists (A := A) (s := s) (e := fun _ => true) ⟨_, hl, rfl, _, rfl⟩ ⟨_, hb, rfl, _, rfl⟩ rfl hu (fun j h1 h2 => by
    obtain ⟨a, ha⟩ := refs_get h1
    rw [ha]; exact eq_self a)
  rw [all_true] at this
  exact this
theorem eq_refs {l b : Addr} {es : List (Addr × Obj)} {n k : Nat} (hl : s.heap.get? l = some (listOf (refs es).toArray n)) (hb : s.heap.get? b = some (listOf (refs es).toArray k)) (hu : A.units < cLine) : EqAt A s (.ref l) (.ref b) true := fun prog w E Q h => by
  have r := RcAt.lists (A := A) (s := s) (e := fun _ => true) ⟨_, hl, rfl, _, rfl⟩ ⟨_, hb, rfl, _, rfl⟩ rfl hu (fun j h1 h2 => by
    obtain ⟨a, ha⟩ := refs_get h1
    rw [ha]; exact eq_self a)
  rw [all_true] at r
  unfold eqBool
  refine wpAny_holding ?_
  refine wpAny_ite_split (fun _ => wpAny_bind (wpAny_rule (wpAny_pure h))) (fun _ => ?_)
  exact wpAny_bind (r prog w E _ (wpAny_truthy_bool h))
/-- [p] and [e], p and e lists of the very same refs -/
theorem ne_one {q r p e : Addr} {es : List (Addr × Obj)} {n k i j : Nat} (hq : s.heap.get? q = some (listOf #[Value.ref p] i)) (hr : s.heap.get? r = some (listOf #[Value.ref e] j)) (hl : s.heap.get? p = some (listOf (refs es).toArray n)) (hb : s.heap.get? e = some (listOf (refs es).toArray k))
    (hu : A.units + 1 < cLine) : RcNeAt A s (.ref q) (.ref r) false := by
  have := RcNeAt.lists (A := A) (s := s) (e := fun _ => true) ⟨_, hq, rfl, _, rfl⟩ ⟨_, hr, rfl, _, rfl⟩ rfl (by omega) (fun j h1 h2 => by
    have : j = 0 := by simpa using h1
    subst this
    exact eq_refs hl hb hu)
  rw [all_true] at this
  exact this
end
end Mine
end
section
open PySem PySem.W PySem.Calls PyProof.Rows
set_option Elab.async false
set_option maxRecDepth 100000
namespace Mine
section
variable {prog : Program} {w : World} {A : Around} {E : Value → Shared → Prop} {s : Shared} {h₀ : Heap} {L : Addr} {m : Str → Option Value} {news : List (Addr × Obj)}
theorem tuple_copy {l : Addr} {items : List Value} {n : Nat} {Q : Value → Shared → Prop} (F : Fr h₀ L s.heap m) (N : News h₀ L s.heap news) (hl : s.heap.get? l = some (listOf items.toArray n)) (hsz : items.length ≤ sizeLine)
    (h : ∀ D h', Fr h₀ L h' m → News h₀ L h' ((D, ({ cls := .type "tuple", data := .seq items.toArray } : Obj)) :: news) → Q (.ref D) { s with heap := h' }) :
    wpAny (model prog w) A (call (.type "tuple") [.ref l]) Q E s := by
  refine call_tuple_list ⟨_, hl, rfl, _, rfl⟩ (fun h' hk => ?_) (by rw [List.size_toArray]; exact hsz)
  have F' : Fr h₀ L ({ s with heap := h' } : Shared).heap m := F.keeps hk
  have N' : News h₀ L ({ s with heap := h' } : Shared).heap news := N.grown hk
  exact h _ _ (F'.keeps fun b o e => Heap.get?_push_of_some _ e) (news_pushed F' N' (fun b o e => Heap.get?_push_of_some _ e) (Heap.get?_push_size _ rfl) rfl)
theorem list_copy {l : Addr} {items : List Value} {n : Nat} {Q : Value → Shared → Prop} (F : Fr h₀ L s.heap m) (N : News h₀ L s.heap news) (hl : s.heap.get? l = some (listOf items.toArray n)) (hsz : items.length ≤ sizeLine)
    (h : ∀ D c h', Fr h₀ L h' m → News h₀ L h' ((D, listOf items.toArray c) :: news) → Q (.ref D) { s with heap := h' }) :
    wpAny (model prog w) A (call (.type "list") [.ref l]) Q E s :=
  list_copyK F N ⟨_, hl, rfl, _, rfl⟩ (fun D c h' F' N' _ => h D c h' F' N') (by rw [List.size_toArray]; exact hsz)
theorem list_copy_t {l : Addr} {items : List Value} {Q : Value → Shared → Prop} (F : Fr h₀ L s.heap m) (N : News h₀ L s.heap news) (hl : s.heap.get? l = some ({ cls := .type "tuple", data := .seq items.toArray } : Obj)) (hsz : items.length ≤ sizeLine)
    (h : ∀ D c h', Fr h₀ L h' m → News h₀ L h' ((D, listOf items.toArray c) :: news) → Q (.ref D) { s with heap := h' }) :
    wpAny (model prog w) A (call (.type "list") [.ref l]) Q E s :=
  list_copyKT F N ⟨_, hl, rfl, _, rfl⟩ (fun D c h' F' N' _ => h D c h' F' N') (by rw [List.size_toArray]; exact hsz)
theorem ne_of_rc {x y : Value} {b : Bool} {Q : Value → Shared → Prop} (r : SeqAt.RcNeAt A s x y b) (h : Q (.bool b) s) : wpAny (model prog w) A (compareOp .NotEq x y) Q E s := r prog w E Q h
end
theorem News.swap2 {h₀ h : Heap} {L : Addr} {pre ys es : List (Addr × Obj)} (N : News h₀ L h (pre ++ (es ++ ys))) : News h₀ L h (pre ++ (ys ++ es)) := fun q hq => N q (by
  rw [List.mem_append, List.mem_append] at hq ⊢
  rcases hq with q | q | q
  · exact .inl q
  · exact .inr (.inr q)
  · exact .inr (.inl q))
/-- the entries' ledger with found and the law's cells -/
theorem News.perm1 {h₀ h : Heap} {L : Addr} {x y z x1 x2 x3 : Addr × Obj} {es : List (Addr × Obj)} (N : News h₀ L h (x :: y :: z :: x1 :: x2 :: x3 :: es)) : News h₀ L h (x :: (es ++ [y, z, x1, x2, x3])) :=
  News.swap2 (pre := [x]) (es := [y, z, x1, x2, x3]) (ys := es) N
theorem News.perm2 {h₀ h : Heap} {L : Addr} {a b c y z x1 x2 x3 : Addr × Obj} {es : List (Addr × Obj)} (N : News h₀ L h (a :: b :: c :: (es ++ [y, z, x1, x2, x3]))) : News h₀ L h (a :: b :: c :: y :: z :: x1 :: x2 :: x3 :: es) :=
  News.swap2 (pre := [a, b, c]) (ys := [y, z, x1, x2, x3]) N
theorem News.perm0 {h₀ h : Heap} {L : Addr} {c y z x1 x2 x3 : Addr × Obj} {es : List (Addr × Obj)} (N : News h₀ L h (c :: (es ++ [y, z, x1, x2, x3]))) : News h₀ L h (c :: y :: z :: x1 :: x2 :: x3 :: es) :=
  News.swap2 (pre := [c]) (ys := [y, z, x1, x2, x3]) N
end Mine
end
section
open PySem PySem.W PySem.Calls PyProof.Rows
set_option Elab.async false
set_option maxRecDepth 100000
set_option maxHeartbeats 4000000
namespace Mine
theorem str_int : typeLookup (.type "str") "__int__" = pure none := by rw [typeLookup_type, builtinLookup_eq_fast]; kernel_rfl
theorem str_index : typeLookup (.type "str") "__index__" = pure none := by rw [typeLookup_type, builtinLookup_eq_fast]; kernel_rfl
theorem str_trunc : typeLookup (.type "str") "__trunc__" = pure none := by rw [typeLookup_type, builtinLookup_eq_fast]; kernel_rfl
section
variable {prog : Program} {w : World} {A : Around} {E : Value → Shared → Prop} {s : Shared}
theorem codeC_builtin {R : Result → Shared → Prop} {id : String} {args : Args} {b : Builtin} (hb : entryFor table id = some b)
    (h : wpC (model prog w) (A.under (.builtin id args)) (b args) (fun fin s' => match fin with | .done f => R (.ok f) s' | .again c' => c'.quiet = true ∧ codeC (model prog w) A c' R s') (fun e s' => R (.error e) s') s) (hcl : dirtyIds.contains id = false := by decide +kernel) :
    codeC (model prog w) A (.builtin id args) R s := by
  refine codeC_of_tree ?_ (clean_of hcl)
  show wpC _ _ (match entryFor table id with | some b => b args | none => unsupported ((withoutEnding? id "#data").getD id)) _ _ s
  rw [hb]; exact h
theorem wpC_ite_true {α : Type} {c : Prop} [Decidable c] {a b : Sem α} {Q : α → Shared → Prop} (hc : decide c = true) (h : wpC (model prog w) A a Q E s) : wpC (model prog w) A (if c then a else b) Q E s := by rw [if_pos (of_decide_eq_true hc)]; exact h
theorem wpC_ite_false {α : Type} {c : Prop} [Decidable c] {a b : Sem α} {Q : α → Shared → Prop} (hc : decide c = false) (h : wpC (model prog w) A b Q E s) : wpC (model prog w) A (if c then a else b) Q E s := by rw [if_neg (of_decide_eq_false hc)]; exact h
theorem markUnder {own : List String} {e : Value} {Q : Unit → Shared → Prop} (h : Q () s) : wpC (model prog w) A (markTheRefusal own e) Q E s := by
  unfold markTheRefusal
  refine wpC_bind (wpC_stack fun st hst _ => ?_)
  obtain ⟨x, hx, a, ex⟩ := hst
  have hf : pythonCodeMadeTheCall own (st.map (·.1)) = false := by
    unfold pythonCodeMadeTheCall
    rw [Bool.and_eq_false_iff]
    left
    rw [Bool.and_eq_false_iff]
    left
    rw [Bool.not_eq_false', List.any_eq_true]
    refine ⟨x.1, List.mem_map_of_mem hx, ?_⟩
    rw [ex]
    simp
  rw [hf]
  exact wpC_pure h
theorem codeC_call_builtin {R : Result → Shared → Prop} {id : String} {args : Args} {b : Builtin} (hq : plainId id = true) (hb : entryFor table id = some b) (hc : checkBuiltinCall id args = pure ())
    (h : wpC (model prog w) A.in1 (b args) (fun fin s' => match fin with | .done f => R (.ok f) s' | .again c' => c'.quiet = true ∧ codeC (model prog w) A c' R s') (fun e s' => R (.error e) s') s) (hcl : dirtyIds.contains id = false := by decide +kernel) : codeC (model prog w) A (.call (.builtin id) args) R s := by
  refine codeC_of_tree (wpC_of ?_)
  show wpAny _ _ (checkBuiltinCall id args >>= fun _ => again (.builtin id args)) _ _ _
  rw [hc]
  refine wpAny_bind (wpAny_pure (wpAny_pure ⟨plainId_quiet hq args, codeC_builtin hb ?_ hcl⟩))
  rw [Around.under_plainId hq args]
  exact h
theorem new_x (t : Tok) {Q : Fin → Shared → Prop} (hh : A.handled = none) (hE : ∀ h' tk e, Heap.NewExc s.heap h' e "ValueError" → E (.ref e) { s with heap := h', toks := tk }) :
    wpC (model prog w) A (Builtin.«int.__new__» ⟨[.type "int", .str (Str.ofString "x") t], []⟩) Q E s := by
  obtain ⟨hp, g, d, tk, os⟩ := s
  have f1 := F.conv_sub_int
  have f2 := F.madeHere_int
  have f3 := str_int
  have f4 := str_index
  have f5 := str_trunc
  unfold Builtin.«int.__new__»
  dsimp only
  have f0 : isType (.type "int") = pure true := rfl
  repeat (first | (first
    | with_reducible (first
      | refine wpC_bind ?_ | refine wpC_holding ?_ | refine wpC_keep ?_ | refine wpC_attempt ?_ | refine wpC_pure ?_ | refine markUnder ?_
      | refine wpC_of (wpAny_of_eq (by assumption) ?_) | refine wpC_of (wpAny_rule ?_) | refine wpC_of (wpAny_standAt ?_) | refine wpC_of (wpAny_point ?_) | refine wpC_of (wpAny_mkInt' ?_) | refine wpC_of (wpAny_mkStr' ?_) | refine wpC_of (wpAny_typeOf (by assumption) ?_)
      | refine wpC_of (wpAny_specialOf_val (by assumption) (by assumption) ?_) | refine wpC_of (wpAny_specialOf (by assumption) (by assumption) ?_))
    | ((with_reducible show wpC _ _ (if _ then _ else _) _ _ _); first | (refine wpC_ite_false (by rfl) ?_) | (refine wpC_ite_true (by rfl) ?_) | (refine wpC_ite_false (by decide +kernel) ?_) | (refine wpC_ite_true (by decide +kernel) ?_))) | dsimp only)
  refine wpC_pure (a := PUnit.unit) ?_
  refine wpC_bind ?_
  refine wpC_bind ?_
  refine wpC_of ?_
  repeat (first
    | with_reducible (first
      | refine wpAny_pure ?_ | refine wpAny_bind ?_ | refine wpAny_holding ?_ | refine wpAny_standAt ?_ | refine wpAny_point ?_ | refine wpAny_rule ?_
      | refine wpAny_letGo ?_ | refine wpAny_mkInt' ?_ | refine wpAny_mkStr' ?_ | refine wpAny_fresh' ?_ | refine wpAny_alloc' ?_ | refine wpAny_attempt ?_
      | refine wpAny_throw ?_
      | refine wpAny_of_eq (by assumption) ?_ | refine wpAny_typeOf (by assumption) ?_
      | refine wpAny_specialOf_val (by assumption) (by assumption) ?_ | refine wpAny_specialOf (by assumption) (by assumption) ?_
      | refine wpAny_isInstance_val (by assumption) (by assumption) ?_ | refine wpAny_isInstance (by assumption) (by assumption) ?_
      | refine wpAny_call ?_ | refine wpAny_runValue ?_ | refine wpAny_run ?_)
    | wp_delta
    | ((with_reducible show wpAny _ _ (if _ then _ else _) _ _ _); first | (with_reducible refine wpAny_ite_false (by rfl) ?_) | (with_reducible refine wpAny_ite_true (by rfl) ?_) | (with_reducible refine wpAny_ite_false (by simp [*]; done) ?_) | (with_reducible refine wpAny_ite_true (by simp [*]; done) ?_))
    | ((with_reducible apply wpAny_load'); focus (heap_get; done))
    | ((with_reducible apply wpAny_loadPart'); focus (heap_get; done))
    | ((with_reducible apply wpAny_handled_none); focus (assumption; done))
    | with_reducible_and_instances refine wpAny_pure ?_
    | with_reducible_and_instances refine wpAny_bind ?_)
  refine wpC_bind ?_
  refine wpC_of ?_
  repeat (first
    | with_reducible (first
      | refine wpAny_pure ?_ | refine wpAny_bind ?_ | refine wpAny_holding ?_ | refine wpAny_standAt ?_ | refine wpAny_point ?_ | refine wpAny_rule ?_
      | refine wpAny_letGo ?_ | refine wpAny_mkInt' ?_ | refine wpAny_mkStr' ?_ | refine wpAny_fresh' ?_ | refine wpAny_alloc' ?_ | refine wpAny_attempt ?_
      | refine wpAny_throw ?_
      | refine wpAny_of_eq (by assumption) ?_ | refine wpAny_typeOf (by assumption) ?_
      | refine wpAny_specialOf_val (by assumption) (by assumption) ?_ | refine wpAny_specialOf (by assumption) (by assumption) ?_
      | refine wpAny_isInstance_val (by assumption) (by assumption) ?_ | refine wpAny_isInstance (by assumption) (by assumption) ?_
      | refine wpAny_call ?_ | refine wpAny_runValue ?_ | refine wpAny_run ?_)
    | wp_delta
    | ((with_reducible show wpAny _ _ (if _ then _ else _) _ _ _); first | (with_reducible refine wpAny_ite_false (by rfl) ?_) | (with_reducible refine wpAny_ite_true (by rfl) ?_) | (with_reducible refine wpAny_ite_false (by simp [*]; done) ?_) | (with_reducible refine wpAny_ite_true (by simp [*]; done) ?_))
    | ((with_reducible apply wpAny_load'); focus (heap_get; done))
    | ((with_reducible apply wpAny_loadPart'); focus (heap_get; done))
    | ((with_reducible apply wpAny_handled_none); focus (assumption; done))
    | with_reducible_and_instances refine wpAny_pure ?_
    | with_reducible_and_instances refine wpAny_bind ?_)
  refine wpC_ite_false (by rfl) ?_
  refine wpC_bind ?_
  refine wpC_of ?_
  repeat (first
    | with_reducible (first
      | refine wpAny_pure ?_ | refine wpAny_bind ?_ | refine wpAny_holding ?_ | refine wpAny_standAt ?_ | refine wpAny_point ?_ | refine wpAny_rule ?_
      | refine wpAny_letGo ?_ | refine wpAny_mkInt' ?_ | refine wpAny_mkStr' ?_ | refine wpAny_fresh' ?_ | refine wpAny_alloc' ?_ | refine wpAny_attempt ?_
      | refine wpAny_throw ?_
      | refine wpAny_of_eq (by assumption) ?_ | refine wpAny_typeOf (by assumption) ?_
      | refine wpAny_specialOf_val (by assumption) (by assumption) ?_ | refine wpAny_specialOf (by assumption) (by assumption) ?_
      | refine wpAny_isInstance_val (by assumption) (by assumption) ?_ | refine wpAny_isInstance (by assumption) (by assumption) ?_
      | refine wpAny_call ?_ | refine wpAny_runValue ?_ | refine wpAny_run ?_)
    | wp_delta
    | ((with_reducible show wpAny _ _ (if _ then _ else _) _ _ _); first | (with_reducible refine wpAny_ite_false (by rfl) ?_) | (with_reducible refine wpAny_ite_true (by rfl) ?_) | (with_reducible refine wpAny_ite_false (by simp [*]; done) ?_) | (with_reducible refine wpAny_ite_true (by simp [*]; done) ?_))
    | ((with_reducible apply wpAny_load'); focus (heap_get; done))
    | ((with_reducible apply wpAny_loadPart'); focus (heap_get; done))
    | ((with_reducible apply wpAny_handled_none); focus (assumption; done))
    | with_reducible_and_instances refine wpAny_pure ?_
    | with_reducible_and_instances refine wpAny_bind ?_)
  refine wpC_bind ?_
  refine wpC_of ?_
  repeat (first
    | with_reducible (first
      | refine wpAny_pure ?_ | refine wpAny_bind ?_ | refine wpAny_holding ?_ | refine wpAny_standAt ?_ | refine wpAny_point ?_ | refine wpAny_rule ?_
      | refine wpAny_letGo ?_ | refine wpAny_mkInt' ?_ | refine wpAny_mkStr' ?_ | refine wpAny_fresh' ?_ | refine wpAny_alloc' ?_ | refine wpAny_attempt ?_
      | refine wpAny_throw ?_
      | refine wpAny_of_eq (by assumption) ?_ | refine wpAny_typeOf (by assumption) ?_
      | refine wpAny_specialOf_val (by assumption) (by assumption) ?_ | refine wpAny_specialOf (by assumption) (by assumption) ?_
      | refine wpAny_isInstance_val (by assumption) (by assumption) ?_ | refine wpAny_isInstance (by assumption) (by assumption) ?_
      | refine wpAny_call ?_ | refine wpAny_runValue ?_ | refine wpAny_run ?_)
    | wp_delta
    | ((with_reducible show wpAny _ _ (if _ then _ else _) _ _ _); first | (with_reducible refine wpAny_ite_false (by rfl) ?_) | (with_reducible refine wpAny_ite_true (by rfl) ?_) | (with_reducible refine wpAny_ite_false (by simp [*]; done) ?_) | (with_reducible refine wpAny_ite_true (by simp [*]; done) ?_))
    | ((with_reducible apply wpAny_load'); focus (heap_get; done))
    | ((with_reducible apply wpAny_loadPart'); focus (heap_get; done))
    | ((with_reducible apply wpAny_handled_none); focus (assumption; done))
    | with_reducible_and_instances refine wpAny_pure ?_
    | with_reducible_and_instances refine wpAny_bind ?_)
  have et : (if ((Str.ofString "x").cps.all fun x => decide (x < 128)) = true then (Str.ofString "x").cps.toList else Unicode.numberText (Str.ofString "x").cps.toList) = [120] := by decide +kernel
  rw [et]
  refine wpC_bind ?_
  refine wpC_pure ?_
  refine wpC_bind ?_
  refine wpC_of ?_
  repeat (first
    | with_reducible (first
      | refine wpAny_pure ?_ | refine wpAny_bind ?_ | refine wpAny_holding ?_ | refine wpAny_standAt ?_ | refine wpAny_point ?_ | refine wpAny_rule ?_
      | refine wpAny_letGo ?_ | refine wpAny_mkInt' ?_ | refine wpAny_mkStr' ?_ | refine wpAny_fresh' ?_ | refine wpAny_alloc' ?_ | refine wpAny_attempt ?_
      | refine wpAny_throw ?_
      | refine wpAny_of_eq (by assumption) ?_ | refine wpAny_typeOf (by assumption) ?_
      | refine wpAny_specialOf_val (by assumption) (by assumption) ?_ | refine wpAny_specialOf (by assumption) (by assumption) ?_
      | refine wpAny_isInstance_val (by assumption) (by assumption) ?_ | refine wpAny_isInstance (by assumption) (by assumption) ?_
      | refine wpAny_call ?_ | refine wpAny_runValue ?_ | refine wpAny_run ?_)
    | wp_delta
    | ((with_reducible show wpAny _ _ (if _ then _ else _) _ _ _); first | (with_reducible refine wpAny_ite_false (by rfl) ?_) | (with_reducible refine wpAny_ite_true (by rfl) ?_) | (with_reducible refine wpAny_ite_false (by simp [*]; done) ?_) | (with_reducible refine wpAny_ite_true (by simp [*]; done) ?_))
    | ((with_reducible apply wpAny_load'); focus (heap_get; done))
    | ((with_reducible apply wpAny_loadPart'); focus (heap_get; done))
    | ((with_reducible apply wpAny_handled_none); focus (assumption; done))
    | with_reducible_and_instances refine wpAny_pure ?_
    | with_reducible_and_instances refine wpAny_bind ?_)
  refine wpC_ite_false (by rfl) ?_
  refine wpC_bind ?_
  refine wpC_of (wpAny_rule ?_)
  refine wpC_bind ?_
  refine wpC_of ?_
  repeat (first
    | with_reducible (first
      | refine wpAny_pure ?_ | refine wpAny_bind ?_ | refine wpAny_holding ?_ | refine wpAny_standAt ?_ | refine wpAny_point ?_ | refine wpAny_rule ?_
      | refine wpAny_letGo ?_ | refine wpAny_mkInt' ?_ | refine wpAny_mkStr' ?_ | refine wpAny_fresh' ?_ | refine wpAny_alloc' ?_ | refine wpAny_attempt ?_
      | refine wpAny_throw ?_
      | refine wpAny_of_eq (by assumption) ?_ | refine wpAny_typeOf (by assumption) ?_
      | refine wpAny_specialOf_val (by assumption) (by assumption) ?_ | refine wpAny_specialOf (by assumption) (by assumption) ?_
      | refine wpAny_isInstance_val (by assumption) (by assumption) ?_ | refine wpAny_isInstance (by assumption) (by assumption) ?_
      | refine wpAny_call ?_ | refine wpAny_runValue ?_ | refine wpAny_run ?_)
    | wp_delta
    | ((with_reducible show wpAny _ _ (if _ then _ else _) _ _ _); first | (with_reducible refine wpAny_ite_false (by rfl) ?_) | (with_reducible refine wpAny_ite_true (by rfl) ?_) | (with_reducible refine wpAny_ite_false (by simp [*]; done) ?_) | (with_reducible refine wpAny_ite_true (by simp [*]; done) ?_))
    | ((with_reducible apply wpAny_load'); focus (heap_get; done))
    | ((with_reducible apply wpAny_loadPart'); focus (heap_get; done))
    | ((with_reducible apply wpAny_handled_none); focus (assumption; done))
    | with_reducible_and_instances refine wpAny_pure ?_
    | with_reducible_and_instances refine wpAny_bind ?_)
  refine wpC_bind ?_
  refine wpC_of (wpAny_pyRepr_str ?_ (by decide +kernel))
  refine wpC_bind ?_
  refine wpC_of (wpAny_mkStr ?_ (by decide +kernel))
  refine wpC_bind ?_
  unfold newExc newTuple
  refine wpC_bind (wpC_of (wpAny_newObj_type ?_))
  refine wpC_bind (m := firstArgMember _ _) (wpC_of (wpAny_of_eq (a := Value.none) (by simp only [firstArgMember, plainExc_ValueError.first]; rfl) ?_))
  rw [plainExc_ValueError.own]
  refine wpC_of (wpAny_newObj_type ?_)
  refine wpC_bind (markUnder ?_)
  refine wpC_of (wpAny_raiseNew_none hh ?_)
  exact hE _ _ _ ⟨fun b o hb => Heap.get?_push_of_some _ (Heap.get?_push_of_some _ hb), Heap.get?_none_of_le (by simp), _, .ref hp.objs.size, Heap.get?_push_size _ rfl, rfl, by simp⟩
/-- int("x") under the claim's caller: a ValueError, new -/
theorem call_x {t : Tok} {R : Result → Shared → Prop} (hh : A.handled = none) (hE : ∀ h' tk e, Heap.NewExc s.heap h' e "ValueError" → R (.error (.ref e)) { s with heap := h', toks := tk }) :
    codeC (model prog w) A (.call (.type "int") ⟨[.str (Str.ofString "x") t], []⟩) R s := by
  refine codeC_of_tree ?_
  show wpC _ _ (callAny (.type "int") _) _ _ _
  refine wpC_pure ⟨Code.quiet_builtin _ (by decide +kernel), codeC_builtin F.entry_type_call ?_⟩
  rw [Around.under_plain (weight_type_call_type "int" [.str (Str.ofString "x") t] []) (units_type_call_type "int" [.str (Str.ofString "x") t] [])]
  obtain ⟨c, tl, hmro⟩ := F.called_int.mro
  have hmade := F.called_int.made
  have hct := F.typeCall_int_1 (.str (Str.ofString "x") t)
  obtain ⟨hp, g, d, tk, os⟩ := s
  unfold Builtin.«type.__call__»
  dsimp only
  repeat (first | (first
    | with_reducible (first
      | refine wpC_bind ?_ | refine wpC_holding ?_ | refine wpC_keep ?_ | refine wpC_attempt ?_ | refine wpC_pure ?_ | refine markUnder ?_
      | refine wpC_of (wpAny_of_eq (by assumption) ?_) | refine wpC_of (wpAny_rule ?_) | refine wpC_of (wpAny_standAt ?_) | refine wpC_of (wpAny_point ?_) | refine wpC_of (wpAny_mkInt' ?_) | refine wpC_of (wpAny_mkStr' ?_) | refine wpC_of (wpAny_typeOf (by assumption) ?_)
      | refine wpC_of (wpAny_specialOf_val (by assumption) (by assumption) ?_) | refine wpC_of (wpAny_specialOf (by assumption) (by assumption) ?_))
    | ((with_reducible show wpC _ _ (if _ then _ else _) _ _ _); first | (refine wpC_ite_false (by rfl) ?_) | (refine wpC_ite_true (by rfl) ?_) | (refine wpC_ite_false (by decide +kernel) ?_) | (refine wpC_ite_true (by decide +kernel) ?_))) | dsimp only)
  refine wpC_call (codeC_call_builtin F.called_int.plain F.entry_int_new (F.newCall_int_1 _) ?_)
  refine new_x t hh fun h' tk' e hx => ?_
  exact hE _ _ _ hx
end
end Mine
end
section
open PySem PySem.W PySem.Calls PyProof.Rows
set_option Elab.async false
set_option maxRecDepth 100000
set_option maxHeartbeats 4000000
namespace Mine
namespace BA
theorem split0 : "bytearray.__new__".splitOn ".__new__" = ["bytearray", ""] := by simp +decide [String.splitOn, String.splitOnAux]
theorem mro : mroOf (.type "bytearray") = pure [.type "bytearray", .type "object"] := by rw [mroOf_type]; kernel_rfl
theorem lookupNew : typeLookup (.type "bytearray") "__new__" = pure (some (.builtin "bytearray.__new__")) := by rw [typeLookup_type, builtinLookup_eq_fast]; kernel_rfl
theorem slotInit : Slot "bytearray" "__init__" "bytearray.__init__" :=
  .of (owner := "bytearray") (n := "__init__") (by rw [typeLookup_type, builtinLookup_eq_fast]; kernel_rfl) (by decide +kernel) (by decide +kernel) (by decide +kernel)
    (by first | exact .inl (by decide +kernel) | exact .inr (by decide +kernel)) (by rw [isSubtype_type]; kernel_rfl)
theorem called : TypeCalled "bytearray" "bytearray.__new__" "bytearray.__init__" :=
  ⟨by decide +kernel, by decide +kernel, ⟨_, _, mro⟩, madeBy_type mro lookupNew (by decide +kernel), by decide +kernel, by rw [isSubtype_type]; kernel_rfl, slotInit⟩
theorem typeCall0 : checkTypeCall "bytearray" ⟨[], []⟩ = pure () := by kernel_rfl
theorem newCall0 : checkBuiltinCall "bytearray.__new__" ⟨[.type "bytearray"], []⟩ = pure () := by kernel_rfl
theorem entryNew : entryFor table "bytearray.__new__" = some Builtin.«list.__new__» :=
  entryFor_alias (id' := "list.__new__") (by rw [fastTable_eq_tree]; kernel_rfl) (by first | decide +kernel | kernel_rfl) (by first | decide +kernel | kernel_rfl) (by rw [fastTable_eq_tree]; kernel_rfl)
theorem plainAttrs : PlainAttrs "bytearray" :=
  ⟨⟨"bytearray.__getattribute__", by rw [typeLookup_type, builtinLookup_eq_fast]; kernel_rfl, by decide +kernel⟩, by rw [typeLookup_type, builtinLookup_eq_fast]; kernel_rfl⟩
theorem subSelf : isSubtype (.type "bytearray") (.type "bytearray") = pure true := by rw [isSubtype_type]; kernel_rfl
theorem plainNew : plainId "bytearray.__new__" = true := by decide +kernel
theorem ownerNew : ("bytearray.__new__".splitOn ".__new__").headD "" = "bytearray" := by rw [Mine.BA.split0]; rfl
theorem entryInit : entryFor table "bytearray.__init__" = some Builtin.«bytearray.__init__» := entryFor_of_tree (by kernel_rfl)
theorem argsInit1 (a : Value) : argsOk "bytearray.__init__" ⟨[a], []⟩ := by unfold argsOk; kernel_rfl
theorem slotAppend : Slot "bytearray" "append" "bytearray.append" :=
  .of (owner := "bytearray") (n := "append") (by rw [typeLookup_type, builtinLookup_eq_fast]; kernel_rfl) (by decide +kernel) (by decide +kernel) (by decide +kernel)
    (by first | exact .inl (by decide +kernel) | exact .inr (by decide +kernel)) (by rw [isSubtype_type]; kernel_rfl)
theorem entryAppend : entryFor table "bytearray.append" = some Builtin.«bytearray.append» := entryFor_of_tree (by kernel_rfl)
theorem argsAppend (a b : Value) : argsOk "bytearray.append" ⟨[a, b], []⟩ := by unfold argsOk; kernel_rfl
theorem typeAppend : typeOf (.builtin "bytearray.append") = pure (.type "method_descriptor") := by show builtinType _ = _; rw [builtinType_eq_fast]; kernel_rfl
theorem slotExtend : Slot "bytearray" "extend" "bytearray.extend" :=
  .of (owner := "bytearray") (n := "extend") (by rw [typeLookup_type, builtinLookup_eq_fast]; kernel_rfl) (by decide +kernel) (by decide +kernel) (by decide +kernel)
    (by first | exact .inl (by decide +kernel) | exact .inr (by decide +kernel)) (by rw [isSubtype_type]; kernel_rfl)
theorem entryExtend : entryFor table "bytearray.extend" = some Builtin.«bytearray.extend» := entryFor_of_tree (by kernel_rfl)
theorem entryExtendLoop : entryFor table "bytearray.extend.loop" = some Builtin.«bytearray.extend.loop» := entryFor_of_tree (by kernel_rfl)
theorem entryExtendEnd : entryFor table "bytearray.extend.end" = some Builtin.«bytearray.extend.end» := entryFor_of_tree (by kernel_rfl)
theorem argsExtend (a b : Value) : argsOk "bytearray.extend" ⟨[a, b], []⟩ := by unfold argsOk; kernel_rfl
theorem typeExtend : typeOf (.builtin "bytearray.extend") = pure (.type "method_descriptor") := by show builtinType _ = _; rw [builtinType_eq_fast]; kernel_rfl
theorem slotLen : Slot "bytearray" "__len__" "bytearray.__len__" :=
  .of (owner := "bytearray") (n := "__len__") (by rw [typeLookup_type, builtinLookup_eq_fast]; kernel_rfl) (by decide +kernel) (by decide +kernel) (by decide +kernel)
    (by first | exact .inl (by decide +kernel) | exact .inr (by decide +kernel)) (by rw [isSubtype_type]; kernel_rfl)
theorem entryLen : entryFor table "bytearray.__len__" = some Builtin.«bytearray.__len__» := entryFor_of_tree (by kernel_rfl)
theorem argsLen (a : Value) : argsOk "bytearray.__len__" ⟨[a], []⟩ := by unfold argsOk; kernel_rfl
theorem slotGetitem : Slot "bytearray" "__getitem__" "bytearray.__getitem__" :=
  .of (owner := "bytearray") (n := "__getitem__") (by rw [typeLookup_type, builtinLookup_eq_fast]; kernel_rfl) (by decide +kernel) (by decide +kernel) (by decide +kernel)
    (by first | exact .inl (by decide +kernel) | exact .inr (by decide +kernel)) (by rw [isSubtype_type]; kernel_rfl)
theorem entryGetitem : entryFor table "bytearray.__getitem__" = some Builtin.«bytearray.__getitem__» := entryFor_of_tree (by kernel_rfl)
theorem argsGetitem (a b : Value) : argsOk "bytearray.__getitem__" ⟨[a, b], []⟩ := by unfold argsOk; kernel_rfl
theorem slotIter : Slot "bytearray" "__iter__" "bytearray.__iter__" :=
  .of (owner := "bytearray") (n := "__iter__") (by rw [typeLookup_type, builtinLookup_eq_fast]; kernel_rfl) (by decide +kernel) (by decide +kernel) (by decide +kernel)
    (by first | exact .inl (by decide +kernel) | exact .inr (by decide +kernel)) (by rw [isSubtype_type]; kernel_rfl)
theorem entryIter : entryFor table "bytearray.__iter__" = some Builtin.«bytearray.__iter__» := entryFor_of_tree (by kernel_rfl)
theorem argsIter (a : Value) : argsOk "bytearray.__iter__" ⟨[a], []⟩ := by unfold argsOk; kernel_rfl
theorem noBool : typeLookup (.type "bytearray") "__bool__" = pure none := by rw [typeLookup_type, builtinLookup_eq_fast]; kernel_rfl
theorem tupNoBuffer : typeLookup (.type "tuple") "__buffer__" = pure none := by rw [typeLookup_type, builtinLookup_eq_fast]; kernel_rfl
end BA
end Mine
end
section
open PySem PySem.W PySem.Calls PyProof.Rows
set_option Elab.async false
set_option maxRecDepth 100000
set_option maxHeartbeats 4000000
namespace Mine
/-- a bytearray's object -/
abbrev baOf (b : Array UInt8) : Obj := { cls := .type "bytearray", data := .bytearray b }
theorem dirty_of {id : String} {args : Args} (h : clean (.builtin id args) = true) : dirtyIds.contains id = false := by
  have : (!dirtyIds.contains id) = true := h
  simpa using this
section
variable {prog : Program} {w : World} {A : Around} {E : Value → Shared → Prop} {s : Shared}
theorem ba_payload {M : Model} {a : Addr} {b : Array UInt8} {Q : Array UInt8 → Shared → Prop} (ha : s.heap.get? a = some (baOf b)) (h : Q b s) : wpAny M A (Builtin.Bytes.payload (.ref a)) Q E s := by
  unfold Builtin.Bytes.payload
  refine wpAny_bind ?_
  unfold Builtin.Bytes.payload?
  exact wpAny_bind (wpAny_load ha (wpAny_pure (wpAny_pure h)))
theorem ba_update {M : Model} {a : Addr} {b : Array UInt8} {f : Array UInt8 → Array UInt8} {Q : Unit → Shared → Prop} (ha : s.heap.get? a = some (baOf b)) (hz : (f b).size ≤ sizeLine)
    (h : ∀ h', Heap.SameBut a s.heap h' → h'.get? a = some (baOf (f b)) → Q () { s with heap := h' }) : wpAny M A (Builtin.Bytes.write (.ref a) f) Q E s := by
  show wpAny M A (updateBytearray a f) Q E s
  unfold updateBytearray
  refine wpAny_bind (wpAny_load ha ?_)
  dsimp only
  have hs := Heap.get?_update_self (Obj.mapBytearray f) ha rfl
  refine wpAny_bind (wpAny_update ha ?_)
  refine wpAny_lookBehind (o := baOf (f b)) hs ?_ (h _ (Heap.SameBut.update ..) hs)
  show (if (f b).size > sizeLine then some "bytearray:memory" else none) = none
  rw [if_neg (Nat.not_lt.mpr hz)]
theorem ba_new {M : Model} {b : Array UInt8} {Q : Value → Shared → Prop} (hz : b.size ≤ sizeLine) (h : Q (.ref s.heap.objs.size) { s with heap := s.heap.push (baOf b) }) : wpAny M A (Builtin.Bytes.newBytearray b) Q E s :=
  wpAny_newObj_type h hz
theorem ba_byte {M : Model} {i : Int} {t : Tok} {Q : UInt8 → Shared → Prop} (h0 : 0 ≤ i) (h1 : i ≤ 255) (h : Q i.toNat.toUInt8 s) : wpAny M A (Builtin.Bytes.byteValue (.int i t)) Q E s := by
  unfold Builtin.Bytes.byteValue asIndex asInt?
  refine wpAny_bind (wpAny_bind (wpAny_pure (wpAny_pure ?_)))
  have hc : (decide (i < 0) || decide (i ≥ 256)) = false := by rw [Bool.or_eq_false_iff]; exact ⟨decide_eq_false (by omega), decide_eq_false (by omega)⟩
  rw [hc]
  exact wpAny_bind (wpAny_pure (wpAny_pure h))
theorem ba_exports {M : Model} {a : Addr} {b : Array UInt8} {Q : Nat → Shared → Prop} (ha : s.heap.get? a = some (baOf b)) (h : Q 0 s) : wpAny M A (Builtin.Bytes.exportsOf (.ref a)) Q E s := by
  unfold Builtin.Bytes.exportsOf
  exact wpAny_bind (wpAny_load ha (wpAny_pure h))
theorem ba_exported {M : Model} {v : Value} {Q : Bool → Shared → Prop} (h : Q false s) : wpC M A (Builtin.Bytes.exported v) Q E s := by
  unfold Builtin.Bytes.exported
  refine wpC_bind (wpC_stack fun st _ hc => ?_)
  have e : ∀ x : Bool, x = false → Q x s := fun x hx => hx ▸ h
  refine wpC_pure (e _ ?_)
  rw [List.any_eq_false]
  rintro ⟨c, p⟩ hx
  have hc := hc _ hx
  split
  · rename_i e; rw [e] at hc; exact absurd (dirty_of hc) (by decide +kernel)
  · rename_i e; rw [e] at hc; exact absurd (dirty_of hc) (by decide +kernel)
  · rename_i e; rw [e] at hc; exact absurd (dirty_of hc) (by decide +kernel)
  · rename_i e; rw [e] at hc; exact absurd (dirty_of hc) (by decide +kernel)
  · rename_i e; rw [e] at hc; exact absurd (dirty_of hc) (by decide +kernel)
  · rename_i e
    rw [e] at hc
    have := dirty_of hc
    unfold dirtyIds at this
    rw [List.contains_eq_mem, decide_eq_false_iff_not, List.mem_append, not_or] at this
    have h2 := this.2
    rw [← decide_eq_false_iff_not, ← List.contains_eq_mem] at h2
    rw [h2, Bool.and_false]; exact Bool.false_ne_true
  · exact Bool.false_ne_true
theorem ba_resize {M : Model} {a : Addr} {b : Array UInt8} {Q : Unit → Shared → Prop} (ha : s.heap.get? a = some (baOf b)) (h : Q () s) : wpC M A (Builtin.Bytes.checkResize (.ref a)) Q E s := by
  unfold Builtin.Bytes.checkResize
  refine wpC_bind ?_
  unfold orM
  refine wpC_bind (ba_exported ?_)
  show wpC M A (Builtin.Bytes.exportsOf (.ref a) >>= fun n => pure (decide (n > 0))) _ _ _
  refine wpC_bindA (ba_exports ha ?_)
  refine wpC_pure ?_
  exact wpC_pure h
end
end Mine
end
section
open PySem PySem.W PySem.Calls PyProof.Rows
set_option Elab.async false
set_option maxRecDepth 100000
set_option maxHeartbeats 4000000
namespace Mine
section
variable {prog : Program} {w : World} {A : Around} {E : Value → Shared → Prop} {s : Shared}
abbrev finC (prog : Program) (w : World) (A : Around) (R : Result → Shared → Prop) (fin : Fin) (s' : Shared) : Prop := match fin with | .done f => R (.ok f) s' | .again c' => c'.quiet = true ∧ codeC (model prog w) A c' R s'
theorem wpC_call_meth {T : String} {name : Str} {id : String} {B : Builtin} {self : Value} {rest : List Value} {Q : Value → Shared → Prop} (slot : Slot T name id) (hT : s.TypeIs self T) (entry : entryFor table id = some B) (args : argsOk id ⟨self :: rest, []⟩)
    (h : wpC (model prog w) A.in1 (B ⟨self :: rest, []⟩) (finC prog w A (wants Q E)) (fun e s' => E e s') s) (hcl : dirtyIds.contains id = false := by decide +kernel) :
    wpC (model prog w) A (call (.builtin id) (self :: rest)) Q E s := by
  refine wpC_call (codeC_of_tree (wpC_of ?_))
  show wpAny _ _ (checkBuiltinCall id ⟨self :: rest, []⟩ >>= fun _ => again (.builtin id ⟨self :: rest, []⟩)) _ _ _
  refine wpAny_bind (slot.check _ _ _ _ _ _ _ _ hT args ?_)
  refine wpAny_pure ⟨plainId_quiet slot.plain _, codeC_builtin entry ?_ hcl⟩
  rw [Around.under_plainId slot.plain _]
  exact wpC_mono h (fun fin s' h' => h') fun _ _ x => x
theorem codeC_loop2 {M : Model} {c : Code} {R : Result → Shared → Prop} (hq : c.quiet = true) (I : Nat → Shared → Prop)
    (turn : ∀ n s, I n s → wpC M (A.under c) (M.den c) (fun fin s' => match fin with | .done f => R (.ok f) s' | .again c' => (c' = c ∧ ∃ m, m < n ∧ I m s') ∨ (c'.quiet = true ∧ codeC M A c' R s')) (fun e s' => R (.error e) s') s)
    (n : Nat) (h : I n s) (hcl : clean c = true := by rfl) : codeC M A c R s := by
  induction n using Nat.strongRecOn generalizing s with
  | ind n ih =>
    refine codeC_of_tree (wpC_mono (turn n s h) (fun fin s' hf => ?_) fun _ _ h' => h') hcl
    cases fin with
    | done f => exact hf
    | again c' =>
      rcases hf with ⟨rfl, m, hm, hI⟩ | hf
      · exact ⟨hq, ih m hm hI⟩
      · exact hf
theorem ba_append {a : Addr} {b : Array UInt8} {i : Int} {t : Tok} {Q : Value → Shared → Prop} (ha : s.heap.get? a = some (baOf b)) (h0 : 0 ≤ i) (h1 : i ≤ 255) (hz : b.size < sizeLine)
    (h : ∀ h', Heap.SameBut a s.heap h' → h'.get? a = some (baOf (b.push i.toNat.toUInt8)) → Q .none { s with heap := h' }) :
    wpC (model prog w) A (call (.builtin "bytearray.append") [.ref a, .int i t]) Q E s := by
  refine wpC_call_meth BA.slotAppend ⟨_, ha, rfl⟩ BA.entryAppend (BA.argsAppend _ _) ?_
  unfold Builtin.«bytearray.append»
  refine wpC_bindA (m := selfAndOne _ _) (wpAny_of_eq (a := (.ref a, .int i t)) rfl ?_)
  refine wpC_bindA (ba_byte h0 h1 ?_)
  refine wpC_bind (ba_resize ha ?_)
  refine wpC_bindA (ba_update ha (by rw [Array.size_push]; exact hz) fun h' hs hg => ?_)
  exact wpC_pure (h h' hs hg)
def octets (ns : List Int) : List UInt8 := ns.map fun n => n.toNat.toUInt8
theorem tupLen : typeLookup (.type "tuple") "__len__" = pure (some (.builtin "tuple.__len__")) := by rw [typeLookup_type, builtinLookup_eq_fast]; kernel_rfl
theorem tupSub : isSubtype (.type "tuple") (.type "tuple") = pure true := by rw [isSubtype_type]; kernel_rfl
theorem tupSplit : splitId "tuple.__len__" = some ("tuple", "__len__") := by kernel_rfl
theorem hint_tuple {M : Model} {id : String} {x : Addr} {Q : Unit → Shared → Prop} (hT : s.TypeIs (.ref x) "tuple") (h : Q () s) : wpAny M A (Builtin.Bytes.lengthHint id (.ref x)) Q E s := by
  unfold Builtin.Bytes.lengthHint
  refine wpAny_bind (wpAny_specialOf hT tupLen ?_)
  dsimp only
  rw [tupSplit]
  dsimp only
  refine wpAny_bind (wpAny_isInstance hT tupSub ?_)
  rw [if_neg (by decide)]
  refine wpAny_bind (wpAny_pure ?_)
  exact wpAny_pure h
theorem octets_snoc (ns : List Int) (n : Int) : (octets (ns ++ [n])) = octets ns ++ [n.toNat.toUInt8] := by simp [octets]
theorem ba_extend {a x : Addr} {b : Array UInt8} {vs : List Value} {ns : List Int} {Q : Value → Shared → Prop} (ha : s.heap.get? a = some (baOf b)) (hx : s.heap.get? x = some ({ cls := .type "tuple", data := .seq vs.toArray } : Obj)) (hI : IntsAre vs ns)
    (hr : ∀ n ∈ ns, 0 ≤ n ∧ n ≤ 255) (hz : b.size + ns.length ≤ sizeLine) (hh : A.handled = none)
    (h : ∀ h' tk, (∀ c o, c ≠ a → s.heap.get? c = some o → h'.get? c = some o) → h'.get? a = some (baOf (b ++ (octets ns).toArray)) → Q .none { s with heap := h', toks := tk }) :
    wpC (model prog w) A (call (.builtin "bytearray.extend") [.ref a, .ref x]) Q E s := by
  have hT : s.TypeIs (.ref x) "tuple" := ⟨_, hx, rfl⟩
  have hax : s.heap.IsTuple x vs.toArray := ⟨_, hx, rfl, _, rfl⟩
  have hxlt : @LT.lt Nat _ x s.heap.objs.size := Heap.lt_size hx
  have halt : @LT.lt Nat _ a s.heap.objs.size := Heap.lt_size ha
  refine wpC_call_meth BA.slotExtend ⟨_, ha, rfl⟩ BA.entryExtend (BA.argsExtend _ _) ?_
  unfold Builtin.«bytearray.extend»
  refine wpC_bindA (m := selfAndOne _ _) (wpAny_of_eq (a := (.ref a, .ref x)) rfl ?_)
  refine wpC_bindA (wpAny_specialOf hT BA.tupNoBuffer ?_)
  rw [if_neg (by decide)]
  refine wpC_bindA (wpAny_tryCatch (wpAny_pyIter_tuple hax ?_))
  generalize hH : s.heap.push { cls := .type "tuple_iterator", data := .fields #[.ref x, .int 0 0] } = H
  have up : ∀ c o, s.heap.get? c = some o → H.get? c = some o := fun c o e => hH ▸ Heap.get?_push_of_some _ e
  have hszH : H.objs.size = s.heap.objs.size + 1 := by rw [← hH, Heap.size_push]
  have hit : H.get? s.heap.objs.size = some { cls := .type "tuple_iterator", data := .fields #[.ref x, .int 0 0] } := hH ▸ Heap.get?_push_size _ rfl
  refine wpC_bindA (wpAny_holding (hint_tuple (s := { s with heap := H }) ⟨_, up _ _ hx, rfl⟩ ?_))
  refine wpC_bindA (ba_new (b := #[]) (by decide) ?_)
  dsimp only
  generalize hG : H.push (baOf #[]) = G
  have upG : ∀ c o, H.get? c = some o → G.get? c = some o := fun c o e => hG ▸ Heap.get?_push_of_some _ e
  have hS : G.get? H.objs.size = some (baOf #[]) := hG ▸ Heap.get?_push_size _ rfl
  generalize hIi : s.heap.objs.size = I at *
  generalize hSs : H.objs.size = S at *
  refine wpC_pure ⟨Code.quiet_builtin _ (by decide +kernel), ?_⟩
  have hxI : x ≠ I := Nat.ne_of_lt hxlt
  have haI : a ≠ I := Nat.ne_of_lt halt
  have haS : a ≠ S := by rw [hszH]; exact Nat.ne_of_lt (Nat.lt_succ_of_lt halt)
  have hSI : S ≠ I := by rw [hszH]; exact Nat.succ_ne_self _
  have hxS : x ≠ S := by rw [hszH]; exact Nat.ne_of_lt (Nat.lt_succ_of_lt hxlt)
  have W := Walks.tuple (prog := prog) (w := w) (A := A.in1) hh I x hxI vs.toArray
  refine codeC_loop2 (Code.quiet_builtin _ (by decide +kernel)) (fun k s' => ∃ h tk i, s' = { s with heap := h, toks := tk } ∧ (h.IsTupleIter I x i ∧ h.IsTuple x vs.toArray) ∧ h.get? S = some (baOf (octets (ns.take i)).toArray) ∧
      (∀ c o, c ≠ S → c ≠ I → s.heap.get? c = some o → h.get? c = some o) ∧ i ≤ vs.length ∧ k = vs.length - i) ?_ vs.length
    ⟨G, _, 0, rfl, ⟨⟨_, upG _ _ hit, rfl, rfl⟩, hax.at fun o e => upG _ _ (up _ _ e)⟩, hS, fun c o _ _ e => upG _ _ (up _ _ e), Nat.zero_le _, rfl⟩ (clean_of (by decide +kernel))
  rintro k s' ⟨h1, tk, i, rfl, hst, hSo, hk, hi, rfl⟩
  have den : (model prog w).den (.builtin "bytearray.extend.loop" ⟨[.ref a, .ref x, .ref I, .ref S], []⟩) = Builtin.«bytearray.extend.loop» ⟨[.ref a, .ref x, .ref I, .ref S], []⟩ := by
    show (match entryFor table "bytearray.extend.loop" with | some b => b ⟨[.ref a, .ref x, .ref I, .ref S], []⟩ | none => unsupported ((withoutEnding? "bytearray.extend.loop" "#data").getD "bytearray.extend.loop")) = _
    rw [BA.entryExtendLoop]
  rw [den, Around.under_plainId (by decide +kernel) _]
  unfold Builtin.«bytearray.extend.loop»
  dsimp only
  by_cases hlt : i < vs.length
  · refine wpC_bindA (W.item i _ _ _ (by simpa using hlt) hst fun v h2 tk2 hP hst2 hk2 => ?_)
    have hv : vs[i]? = some v := by rw [List.getElem?_toArray] at hP; exact hP
    obtain ⟨n, t, rfl, hn⟩ := ints_get hI hv
    obtain ⟨r0, r1⟩ := hr n (List.mem_of_getElem? hn)
    dsimp only
    refine wpC_bindA (wpAny_tryCatch (wpAny_holding (ba_byte r0 r1 ?_)))
    refine wpC_bindA (wpAny_letGo ?_)
    have hS2 : h2.get? S = some (baOf (octets (ns.take i)).toArray) := hk2 _ _ (by simp [hSI]) hSo
    refine wpC_bindA (ba_update hS2 ?_ fun h3 hs3 hg3 => ?_)
    · have : (octets (ns.take i)).toArray.size ≤ ns.length := by rw [List.size_toArray]; unfold octets; rw [List.length_map, List.length_take]; exact Nat.min_le_right _ _
      rw [Array.size_push]
      have hl := hI.length
      have : (octets (ns.take i)).toArray.size = i := by rw [List.size_toArray]; unfold octets; rw [List.length_map, List.length_take]; omega
      omega
    · refine wpC_pure (.inl ⟨rfl, vs.length - (i + 1), by omega, h3, _, i + 1, rfl, ?_, ?_, ?_, hlt, rfl⟩)
      · exact W.frame (i + 1) h2 h3 hst2 fun c hc o e => (hs3.2 c (by rcases List.mem_cons.mp hc with rfl | hc; exact Ne.symm hSI; rw [List.mem_singleton.mp hc]; exact hxS)).trans e
      · rw [hg3, List.take_add_one, hn]
        simp [octets]
      · intro c o hcS hcI e
        exact (hs3.2 c hcS).trans (hk2 c o (by simp [hcI]) (hk c o hcS hcI e))
  · have hin : i = vs.length := by omega
    subst hin
    refine wpC_bindA (W.done _ _ _ (by simpa using hst) fun h2 tk2 hk2 => ?_)
    dsimp only
    refine wpC_pure (.inr ⟨Code.quiet_builtin _ (by decide +kernel), codeC_builtin BA.entryExtendEnd ?_⟩)
    rw [Around.under_plainId (by decide +kernel) _]
    unfold Builtin.«bytearray.extend.end»
    dsimp only
    have hS2 : h2.get? S = some (baOf (octets ns).toArray) := by
      have := hk2 _ _ (by simp [hSI]) hSo
      rw [this, hI.length, List.take_length]
    have ha2 : h2.get? a = some (baOf b) := hk2 _ _ (by simp [haI]) (hk _ _ haS haI ha)
    refine wpC_bindA (wpAny_point ?_)
    refine wpC_bindA (ba_payload hS2 ?_)
    show wpC _ _ (if (!(octets ns).toArray.isEmpty) = true then (Builtin.Bytes.checkResize (.ref a) >>= fun _ => (Builtin.Bytes.write (.ref a) (· ++ (octets ns).toArray) >>= fun _ => ret .none)) else (Builtin.Bytes.write (.ref a) (· ++ (octets ns).toArray) >>= fun _ => ret .none)) _ _ _
    have fin : wpC (model prog w) A.in1 (Builtin.Bytes.write (.ref a) (· ++ (octets ns).toArray) >>= fun _ => ret .none) (finC prog w A (wants Q E)) (fun e s' => E e s') { s with heap := h2, toks := tk2 } := by
      refine wpC_bindA (ba_update ha2 ?_ fun h3 hs3 hg3 => ?_)
      · have e9 : (b ++ (octets ns).toArray).size = b.size + ns.length := by simp [octets]
        show (b ++ (octets ns).toArray).size ≤ sizeLine
        rw [e9]; exact hz
      · refine wpC_pure (h h3 tk2 (fun c o hc e => ?_) hg3)
        have hlt : @LT.lt Nat _ c s.heap.objs.size := Heap.lt_size e
        rw [hIi] at hlt
        have hcI : c ≠ I := Nat.ne_of_lt hlt
        have hcS : c ≠ S := by rw [hszH]; exact Nat.ne_of_lt (Nat.lt_succ_of_lt hlt)
        exact (hs3.2 c hc).trans (hk2 c o (by simp [hcI]) (hk c o hcS hcI e))
    by_cases he : (!(octets ns).toArray.isEmpty) = true
    · rw [if_pos he]
      exact wpC_bind (ba_resize ha2 fin)
    · rw [if_neg he]
      exact fin
end
end Mine
end
section
open PySem PySem.W PySem.Calls PyProof.Rows
set_option Elab.async false
set_option maxRecDepth 100000
set_option maxHeartbeats 4000000
namespace Mine
namespace BA
theorem lookupRelease : typeLookup (.type "bytearray") "__release_buffer__" = pure (some (.builtin "bytearray.__release_buffer__")) := by rw [typeLookup_type, builtinLookup_eq_fast]; kernel_rfl
theorem releaseEnds : ("bytearray.__release_buffer__".endsWith ("." ++ "__release_buffer__")) = true := by decide +kernel
theorem releaseOwner : ("bytearray.__release_buffer__".dropRight ("__release_buffer__".length + 1)) = "bytearray" := by decide +kernel
theorem bind0 : Builtin.Bytes.bindOptional "bytearray.__init__" "bytearray" ["source", "encoding", "errors"] [] [] = pure [none, none, none] := by with_unfolding_all rfl
theorem codec0 (a b c : String) : Builtin.Bytes.checkCodecArg a b c none = pure () := by with_unfolding_all rfl
end BA
section
variable {prog : Program} {w : World} {A : Around} {E : Value → Shared → Prop} {s : Shared}
theorem code_ba_new {Q₁ : Value → Shared → Prop} (h : Q₁ (.ref s.heap.objs.size) { s with heap := s.heap.push (baOf #[]) }) :
    codeAny (model prog w) A (.call (.builtin "bytearray.__new__") ⟨[.type "bytearray"], []⟩) (wants Q₁ E) s := by
  refine codeAny_of_tree ?_
  show wpAny _ A.in1 (do checkBuiltinCall "bytearray.__new__" ⟨[.type "bytearray"], []⟩; again (.builtin "bytearray.__new__" ⟨[.type "bytearray"], []⟩)) _ _ s
  refine wpAny_bind (wpAny_of_eq BA.newCall0 (wpAny_pure ⟨plainId_quiet BA.plainNew _, codeAny_builtin_stack BA.entryNew rfl fun p st => ?_⟩))
  rw [Around.under_plainId BA.plainNew _]
  have hsub := BA.subSelf
  have hown := BA.ownerNew
  obtain ⟨hp, g, d, tk, os⟩ := s
  simp only [hown]
  wp_walk
  exact h
theorem init_ba {a : Addr} {Q : Fin → Shared → Prop} (ha : s.heap.get? a = some (baOf #[])) (h : ∀ h', Heap.SameBut a s.heap h' → h'.get? a = some (baOf #[]) → Q (.done (.ret .none)) { s with heap := h' }) :
    wpC (model prog w) A (Builtin.«bytearray.__init__» ⟨[.ref a], []⟩) Q E s := by
  have hT : s.TypeIs (.ref a) "bytearray" := ⟨_, ha, rfl⟩
  unfold Builtin.«bytearray.__init__»
  dsimp only
  refine wpC_bind (m := Builtin.Bytes.ownRelease (.ref a)) ?_
  unfold Builtin.Bytes.ownRelease Builtin.Bytes.slotIsOwn
  refine wpC_bind (wpC_bindA (wpAny_specialOf hT BA.lookupRelease ?_))
  dsimp only
  rw [BA.releaseEnds, BA.releaseOwner]
  refine wpC_of (wpAny_isInstance hT BA.subSelf ?_)
  refine wpC_pure ?_
  rw [if_neg (by decide)]
  rw [BA.bind0]
  refine wpC_bindA (wpAny_pure ?_)
  dsimp only
  refine wpC_bindA (wpAny_of_eq (BA.codec0 _ _ _) ?_)
  refine wpC_bindA (wpAny_of_eq (BA.codec0 _ _ _) ?_)
  refine wpC_bind ?_
  unfold orM
  refine wpC_bind (ba_exported ?_)
  show wpC _ _ (Builtin.Bytes.exportsOf (.ref a) >>= fun n => pure (decide (n > 0))) _ _ _
  refine wpC_bindA (ba_exports ha ?_)
  refine wpC_pure ?_
  refine wpC_bindA (ba_update ha (by decide) fun h' hs hg => ?_)
  exact wpC_bindA (wpAny_pure (wpC_pure (h h' hs hg)))
/-- bytearray() -/
theorem call_ba {Q : Value → Shared → Prop} (h : ∀ h', (∀ c o, s.heap.get? c = some o → h'.get? c = some o) → h'.get? s.heap.objs.size = some (baOf #[]) → Q (.ref s.heap.objs.size) { s with heap := h' }) :
    wpC (model prog w) A (call (.type "bytearray") []) Q E s := by
  refine wpC_call (codeC_of_tree ?_)
  show wpC _ _ (callAny (.type "bytearray") _) _ _ _
  refine wpC_pure ⟨Code.quiet_builtin _ (by decide +kernel), codeC_builtin F.entry_type_call ?_⟩
  rw [Around.under_plain (weight_type_call_type "bytearray" [] []) (units_type_call_type "bytearray" [] [])]
  obtain ⟨c, tl, hmro⟩ := BA.called.mro
  have hmade := BA.called.made
  have hct := BA.typeCall0
  have h1 := BA.called.notType
  have h2 := BA.called.canCreate
  obtain ⟨hp, g, d, tk, os⟩ := s
  unfold Builtin.«type.__call__»
  dsimp only
  repeat (first | (first
    | with_reducible (first
      | refine wpC_bind ?_ | refine wpC_holding ?_ | refine wpC_keep ?_ | refine wpC_attempt ?_ | refine wpC_pure ?_ | refine markUnder ?_
      | refine wpC_of (wpAny_of_eq (by assumption) ?_) | refine wpC_of (wpAny_rule ?_) | refine wpC_of (wpAny_standAt ?_) | refine wpC_of (wpAny_point ?_) | refine wpC_of (wpAny_mkInt' ?_) | refine wpC_of (wpAny_mkStr' ?_) | refine wpC_of (wpAny_typeOf (by assumption) ?_)
      | refine wpC_of (wpAny_specialOf_val (by assumption) (by assumption) ?_) | refine wpC_of (wpAny_specialOf (by assumption) (by assumption) ?_))
    | ((with_reducible show wpC _ _ (if _ then _ else _) _ _ _); first | (refine wpC_ite_false (by rfl) ?_) | (refine wpC_ite_true (by rfl) ?_) | (refine wpC_ite_false (by decide +kernel) ?_) | (refine wpC_ite_true (by decide +kernel) ?_))) | dsimp only)
  have hS : (hp.push (baOf #[])).get? hp.objs.size = some (baOf #[]) := Heap.get?_push_size _ rfl
  refine wpC_call (codeC_of (code_ba_new (E := E) (Q₁ := _) ?_))
  have hT : ({ heap := hp.push (baOf #[]), gens := g, drawn := d, toks := tk, os := os } : Shared).TypeIs (.ref hp.objs.size) "bytearray" := ⟨_, hS, rfl⟩
  refine wpC_bindA (wpAny_isInstance hT BA.subSelf ?_)
  rw [if_neg (by decide)]
  refine wpC_bind (wpC_holding ?_)
  unfold callSpecial?
  refine wpC_bindA (wpAny_specialOf hT BA.slotInit.lookup ?_)
  dsimp only
  refine wpC_holding ?_
  rw [BA.slotInit.bind]
  refine wpC_bindA (wpAny_pure ?_)
  dsimp only
  refine wpC_bind (wpC_call_meth BA.slotInit hT BA.entryInit (BA.argsInit1 _) (init_ba hS fun h' hs hg => ?_))
  refine wpC_pure ?_
  dsimp only
  rw [if_neg (by decide)]
  refine wpC_pure ?_
  exact h h' (fun c o e => hs.extBut c o (Nat.ne_of_lt (Heap.lt_size e)) (Heap.get?_push_of_some _ e)) hg
end
end Mine
end
section
open PySem PySem.W PySem.Calls PyProof.Rows
set_option Elab.async false
set_option maxRecDepth 100000
set_option maxHeartbeats 4000000
namespace Mine
abbrev tupOf (vs : List Value) : Obj := { cls := .type "tuple", data := .seq vs.toArray }
section
variable {prog : Program} {w : World} {A : Around} {E : Value → Shared → Prop} {s : Shared} {h₀ : Heap} {L : Addr} {m : Str → Option Value} {news : List (Addr × Obj)}
theorem news_new {h h' : Heap} {D : Addr} {o : Obj} (F : Fr h₀ L h m) (N : News h₀ L h news) (hk : ∀ c o, h.get? c = some o → h'.get? c = some o) (hD : h'.get? D = some o) (hlt : h.objs.size ≤ D) :
    Fr h₀ L h' m ∧ News h₀ L h' ((D, o) :: news) ∧ ∀ p ∈ news, p.1 ≠ D := by
  have hL : @LT.lt Nat _ L h.objs.size := F.ns.lt
  have hLD : L ≠ D := Nat.ne_of_lt (Nat.lt_of_lt_of_le hL hlt)
  have nD : h₀.get? D = none := Heap.get?_none_of_le (Nat.le_trans (Nat.le_trans F.above (Nat.le_of_lt hL)) hlt)
  refine ⟨F.keeps hk, fun q hq => ?_, fun p hp => Nat.ne_of_lt (Nat.lt_of_lt_of_le (Heap.lt_size (N p hp).1) hlt)⟩
  rcases List.mem_cons.mp hq with rfl | hq
  · exact ⟨hD, Ne.symm hLD, nD⟩
  · exact N.grown hk q hq
theorem call_baN {Q : Value → Shared → Prop} (F : Fr h₀ L s.heap m) (N : News h₀ L s.heap news)
    (h : ∀ D h', Fr h₀ L h' m → News h₀ L h' ((D, baOf #[]) :: news) → (∀ p ∈ news, p.1 ≠ D) → Q (.ref D) { s with heap := h' }) : wpC (model prog w) A (call (.type "bytearray") []) Q E s :=
  call_ba fun h' hk hg => by
    obtain ⟨F', N', hn⟩ := news_new F N hk hg (Nat.le_refl _)
    exact h _ h' F' N' hn
theorem led_but {h h' : Heap} {p : Addr} {o o' : Obj} {q : List (Addr × Obj)} {rest : List (Addr × Obj)} (F : Fr h₀ L h m) (N : News h₀ L h (q ++ (p, o) :: rest)) (hq : ∀ z ∈ q, z.1 ≠ p) (hr : ∀ z ∈ rest, z.1 ≠ p)
    (hk : ∀ c o, c ≠ p → h.get? c = some o → h'.get? c = some o) (hp : h'.get? p = some o') : Fr h₀ L h' m ∧ News h₀ L h' (q ++ (p, o') :: rest) := by
  have hP := N (p, o) (List.mem_append_right _ (.head _))
  refine ⟨⟨F.ns.at' fun o e => hk _ o (Ne.symm hP.2.1) e, fun b o e => hk b o (fun q => by rw [q, hP.2.2] at e; cases e) (F.keep b o e), F.above⟩, fun z hz => ?_⟩
  rcases List.mem_append.mp hz with hz | hz
  · exact ⟨hk _ _ (hq z hz) (N z (List.mem_append_left _ hz)).1, (N z (List.mem_append_left _ hz)).2⟩
  rcases List.mem_cons.mp hz with rfl | hz
  · exact ⟨hp, hP.2⟩
  · exact ⟨hk _ _ (hr z hz) (N z (List.mem_append_right _ (.tail _ hz))).1, (N z (List.mem_append_right _ (.tail _ hz))).2⟩
theorem ba_extendN {p x : Addr} {b : Array UInt8} {q rest : List (Addr × Obj)} {vs : List Value} {ns : List Int} {Q : Value → Shared → Prop} (F : Fr h₀ L s.heap m) (N : News h₀ L s.heap (q ++ (p, baOf b) :: rest)) (hq : ∀ z ∈ q, z.1 ≠ p) (hr : ∀ z ∈ rest, z.1 ≠ p)
    (hx : s.heap.get? x = some (tupOf vs)) (hI : IntsAre vs ns) (hn : ∀ n ∈ ns, 0 ≤ n ∧ n ≤ 255) (hz : b.size + ns.length ≤ sizeLine) (hh : A.handled = none)
    (h : ∀ h' tk, Fr h₀ L h' m → News h₀ L h' (q ++ (p, baOf (b ++ (octets ns).toArray)) :: rest) → Q .none { s with heap := h', toks := tk }) :
    wpC (model prog w) A (call (.builtin "bytearray.extend") [.ref p, .ref x]) Q E s :=
  ba_extend (N (p, baOf b) (List.mem_append_right _ (.head _))).1 hx hI hn hz hh fun h' tk hk hg => by
    obtain ⟨F', N'⟩ := led_but F N hq hr hk hg
    exact h h' tk F' N'
theorem ba_appendN {p : Addr} {b : Array UInt8} {q rest : List (Addr × Obj)} {i : Int} {t : Tok} {Q : Value → Shared → Prop} (F : Fr h₀ L s.heap m) (N : News h₀ L s.heap (q ++ (p, baOf b) :: rest)) (hq : ∀ z ∈ q, z.1 ≠ p) (hr : ∀ z ∈ rest, z.1 ≠ p)
    (h0 : 0 ≤ i) (h1 : i ≤ 255) (hz : b.size < sizeLine)
    (h : ∀ h', Fr h₀ L h' m → News h₀ L h' (q ++ (p, baOf (b.push i.toNat.toUInt8)) :: rest) → Q .none { s with heap := h' }) :
    wpC (model prog w) A (call (.builtin "bytearray.append") [.ref p, .int i t]) Q E s :=
  ba_append (N (p, baOf b) (List.mem_append_right _ (.head _))).1 h0 h1 hz fun h' hs hg => by
    obtain ⟨F', N'⟩ := led_but F N hq hr (fun c o hc e => hs.extBut c o hc e) hg
    exact h h' F' N'
/-- x[0:3] of a tuple of three or four -/
theorem tup_slice03 {t sl : Addr} {items : List Value} {u v : Tok} {Q : Value → Shared → Prop} (ht : s.heap.get? t = some (tupOf items)) (hs : s.heap.IsSliceOf sl (.int 0 u) (.int 3 v) .none) (hlen : items.length = 3 ∨ items.length = 4)
    (h : ∀ D h', (∀ c o, s.heap.get? c = some o → h'.get? c = some o) → h'.get? D = some (tupOf (items.take 3)) → Q (.ref D) { s with heap := h' }) : wpAny (model prog w) A (getItem (.ref t) (.ref sl)) Q E s := by
  have htt : IsTup s.heap t items.toArray := ⟨_, ht, rfl, _, rfl⟩
  obtain ⟨os, hos, hcs, hds⟩ := id hs
  have hTs : s.TypeIs (.ref sl) "slice" := ⟨os, hos, hcs⟩
  unfold getItem
  try with_reducible refine wpAny_holding ?_
  first | refine wpAny_bind (wpAny_pure ?_) | skip
  refine wpAny_bind (wpAny_sequenceKey htt.typeIs (by decide) ?_)
  refine wpAny_bind (wpAny_callSpecial?_slot (name := Str.ofString "__getitem__") htt.typeIs slot_tuple_getitem
    (wpAny_call_entry slot_tuple_getitem htt.typeIs entry_tuple_getitem ?_ (args_tuple_getitem _ _)))
  show wpAny _ _ (Builtin.Tuple.tupleItemsOf (.ref t) >>= _) _ _ s
  refine wpAny_bind (tupleItemsOf_ htt ?_)
  refine wpAny_bind (wpAny_typeOf hTs ?_)
  rw [if_pos (by decide)]
  refine wpAny_bind ?_
  unfold Builtin.Slice.sliceApplied Builtin.Slice.sliceFields
  refine wpAny_bind (wpAny_bind (wpAny_field hos hds (x := .int 0 u) rfl (wpAny_bind (wpAny_field hos hds (x := .int 3 v) rfl (wpAny_bind (wpAny_field hos hds (x := .none) rfl (wpAny_pure ?_)))))))
  refine wpAny_bind (slicePart_none ?_)
  show wpAny _ _ (if ((1 : Int) == 0) = true then _ else _) _ _ s
  rw [if_neg (by decide)]
  refine wpAny_bind (slicePart_int (wpAny_bind (slicePart_int (wpAny_bind (wpAny_pure ?_)))))
  rcases hlen with e | e
  · have e1 : Builtin.Slice.sliceAdjust (some 0) (some 3) 1 ((items.toArray.size : Nat) : Int) = (0, 3) := by rw [List.size_toArray, e]; rfl
    show wpAny _ _ (match Builtin.Slice.sliceAdjust (some 0) (some 3) 1 ((items.toArray.size : Nat) : Int) with | (lo, hi) => pure (lo, (1 : Int), Builtin.Slice.slicePlaces lo hi 1)) _ _ s
    rw [e1]
    refine wpAny_pure ?_
    have e3 : Builtin.Slice.slicePlaces 0 3 1 = 3 := rfl
    dsimp only
    rw [e3, List.size_toArray, e, if_pos (by decide)]
    refine wpAny_bind ?_
    unfold Builtin.Tuple.tupleIsExact
    refine wpAny_bind (wpAny_typeOf htt.typeIs ?_)
    refine wpAny_pure ?_
    rw [if_pos (by decide)]
    refine wpAny_bind (wpAny_rule ?_)
    refine wpAny_pure ⟨_, rfl, wpAny_pure (h t s.heap (fun _ _ e => e) ?_)⟩
    rw [ht, List.take_of_length_le (by omega)]
  · have e1 : Builtin.Slice.sliceAdjust (some 0) (some 3) 1 ((items.toArray.size : Nat) : Int) = (0, 3) := by rw [List.size_toArray, e]; rfl
    show wpAny _ _ (match Builtin.Slice.sliceAdjust (some 0) (some 3) 1 ((items.toArray.size : Nat) : Int) with | (lo, hi) => pure (lo, (1 : Int), Builtin.Slice.slicePlaces lo hi 1)) _ _ s
    rw [e1]
    refine wpAny_pure ?_
    have e3 : Builtin.Slice.slicePlaces 0 3 1 = 3 := rfl
    dsimp only
    rw [e3, List.size_toArray, e, if_neg (by decide)]
    have e4 : ((List.range 3).filterMap fun (k : Nat) => items.toArray[((0 : Int) + (k : Int) * 1).toNat]?).toArray = (items.take 3).toArray := by
      match items, e with
      | [a, b, c, d], _ => rfl
    rw [e4]
    refine wpAny_bind (m := Builtin.Tuple.tupleExact _) (wpAny_newObj_type (wpAny_pure ⟨_, rfl, wpAny_pure (h _ _ (fun c o e => Heap.get?_push_of_some _ e) (Heap.get?_push_size _ rfl))⟩) ?_)
    show (items.take 3).toArray.size ≤ sizeLine
    rw [List.size_toArray, List.length_take]
    have : 3 ≤ sizeLine := by decide
    omega
theorem slice03N {value slice : Expr} {t : Addr} {items : List Value} {u v : Tok} {Q : Value → Shared → Prop} (F : Fr h₀ L s.heap m) (N : News h₀ L s.heap news) (ht : s.heap.get? t = some (tupOf items)) (hlen : items.length = 3 ∨ items.length = 4)
    (h : ∀ D h', Fr h₀ L h' m → News h₀ L h' news → h'.get? D = some (tupOf (items.take 3)) → Q (.ref D) { s with heap := h' })
    (hs : subscripted slice false (.ref t) (.ref s.heap.objs.size) = operate [.ref s.heap.objs.size, .ref t] (getItem (.ref t) (.ref s.heap.objs.size)) := by with_unfolding_all rfl)
    (hg : ∀ r, letTemporaryGo value (.ref t) r = pure () := by intro _; with_unfolding_all rfl) :
    wpAny (model prog w) A (subscriptTail value slice (.ref t) (.ref s.heap.objs.size)) Q E { s with heap := s.heap.push { cls := .type "slice", data := .fields #[.int 0 u, .int 3 v, .none] } } := by
  have up : ∀ c o, s.heap.get? c = some o → (s.heap.push { cls := .type "slice", data := .fields #[.int 0 u, .int 3 v, .none] }).get? c = some o := fun _ _ e => Heap.get?_push_of_some _ e
  have htt : ({ s with heap := s.heap.push { cls := .type "slice", data := .fields #[.int 0 u, .int 3 v, .none] } } : Shared).TypeIs (.ref t) "tuple" := ⟨_, up _ _ ht, rfl⟩
  refine subscriptTail_ops (s := { s with heap := s.heap.push { cls := .type "slice", data := .fields #[.int 0 u, .int 3 v, .none] } }) htt slot_tuple_getitem.lookup
    (tup_slice03 (up _ _ ht) (Heap.IsSliceOf.new ..) hlen fun D h' hk hD => ?_) hs hg
  exact h D h' (F.keeps fun c o e => hk _ _ (up _ _ e)) (N.grown fun c o e => hk _ _ (up _ _ e)) hD
end
end Mine
end
section
open PySem PySem.W PySem.Calls PyProof.Rows
set_option Elab.async false
set_option maxRecDepth 100000
namespace Mine
def rowOk (four : Int) (j : Nat) (ns : List Int) : Prop := (ns.length = if (j : Int) < four then 4 else 3) ∧ ∀ z ∈ ns, 0 ≤ z ∧ z ≤ 255
theorem okRow_parts {b : Bool} {ns : List Int} (h : okRow b ns = true) : (ns.length = 3 ∨ ns.length = 4) ∧ ∀ x ∈ ns, 0 ≤ x ∧ x ≤ 255 := by
  unfold okRow at h
  rw [Bool.and_eq_true, Bool.and_eq_true, Bool.or_eq_true, beq_iff_eq, beq_iff_eq] at h
  refine ⟨h.1.1, fun x hx => ?_⟩
  have := List.all_eq_true.mp h.2 x hx
  rw [Bool.and_eq_true, decide_eq_true_eq, decide_eq_true_eq] at this
  exact this
theorem okFrom_row : ∀ {P : List (List Int)} {b : Bool} {i : Nat} {ns : List Int}, okFrom b P = true → P[i]? = some ns → ∃ b', okRow b' ns = true
  | [], _, _, _, _, h => by simp at h
  | r :: P, b, 0, ns, h, e => by
    obtain rfl : r = ns := by simpa using e
    exact ⟨b, (Bool.and_eq_true_iff.mp h).1⟩
  | r :: P, b, i + 1, ns, h, e => okFrom_row (Bool.and_eq_true_iff.mp h).2 (by simpa using e)
theorem okPal_parts {P : List (List Int)} (h : okPal P = true) : 0 < P.length ∧ P.length ≤ 256 ∧ okFrom false P = true := by
  unfold okPal at h
  rw [Bool.and_eq_true, Bool.and_eq_true, decide_eq_true_eq, decide_eq_true_eq] at h
  exact ⟨h.1.1, h.1.2, h.2⟩
theorem okPal_row {P : List (List Int)} (h : okPal P = true) {i : Nat} {ns : List Int} (e : P[i]? = some ns) : (ns.length = 3 ∨ ns.length = 4) ∧ ∀ x ∈ ns, 0 ≤ x ∧ x ≤ 255 := by
  obtain ⟨b, hb⟩ := okFrom_row (okPal_parts h).2.2 e
  exact okRow_parts hb
theorem okPal_bad {P : List (List Int)} {i : Nat} {ns : List Int} (e : P[i]? = some ns) (h : ¬ ((ns.length = 3 ∨ ns.length = 4) ∧ ∀ x ∈ ns, 0 ≤ x ∧ x ≤ 255)) : okPal P = false := by
  cases q : okPal P with
  | false => rfl
  | true => exact absurd (okPal_row q e) h
theorem okPal_snoc_bad {P : List (List Int)} {ns : List Int} (h : ¬ ((ns.length = 3 ∨ ns.length = 4) ∧ ∀ x ∈ ns, 0 ≤ x ∧ x ≤ 255)) : okPal (P ++ [ns]) = false := okPal_bad (i := P.length) (by simp) h
theorem okFrom_late (r3 r4 : List Int) (h3 : r3.length = 3) (h4 : r4.length = 4) : ∀ (P : List (List Int)) (b : Bool), okFrom b (P ++ [r3, r4]) = false
  | [], b => by
    show (okRow b r3 && (okRow (b || r3.length == 3) r4 && true)) = false
    have e3 : (r3.length == 3) = true := by rw [h3]; rfl
    have e4 : okRow true r4 = false := row_late (by omega) rfl
    rw [e3, Bool.or_true, e4]
    simp
  | r :: P, b => by
    show (okRow b r && okFrom _ (P ++ [r3, r4])) = false
    rw [okFrom_late r3 r4 h3 h4 P, Bool.and_false]
theorem okPal_late (r3 r4 : List Int) (h3 : r3.length = 3) (h4 : r4.length = 4) (P : List (List Int)) : okPal (P ++ [r3, r4]) = false := by
  unfold okPal
  rw [okFrom_late r3 r4 h3 h4, Bool.and_false]
theorem okPal_long {P : List (List Int)} (h : P.length = 257) : okPal P = false := by
  unfold okPal
  rw [h]; rfl
theorem shape_ok : ∀ (P : List (List Int)) (four : Int) (b : Bool), (b = true → four ≤ 0) → (∀ (j : Nat) ns, P[j]? = some ns → rowOk four j ns) → okFrom b P = true
  | [], _, _, _, _ => rfl
  | r :: P, four, b, hb, hr => by
    obtain ⟨hl, hv⟩ := hr 0 r rfl
    have hall : (r.all fun x => decide (0 ≤ x) && decide (x ≤ 255)) = true := List.all_eq_true.mpr fun x hx => by
      rw [Bool.and_eq_true, decide_eq_true_eq, decide_eq_true_eq]; exact hv x hx
    have hrow : okRow b r = true := by
      unfold okRow
      rw [hall]
      by_cases h0 : ((0 : Nat) : Int) < four
      · rw [if_pos h0] at hl
        cases b with
        | true => have := hb rfl; omega
        | false => rw [hl]; rfl
      · rw [if_neg h0] at hl
        rw [hl]; cases b <;> rfl
    show (okRow b r && okFrom (b || r.length == 3) P) = true
    rw [hrow, Bool.true_and]
    refine shape_ok P (four - 1) _ (fun h => ?_) fun j ns e => ?_
    · rcases Bool.or_eq_true_iff.mp h with h | h
      · have := hb h; omega
      · rw [beq_iff_eq] at h
        by_cases h0 : ((0 : Nat) : Int) < four
        · rw [if_pos h0] at hl; omega
        · omega
    · obtain ⟨h1, h2⟩ := hr (j + 1) ns (by simpa using e)
      refine ⟨?_, h2⟩
      rw [h1]
      by_cases h0 : ((j + 1 : Nat) : Int) < four
      · rw [if_pos h0, if_pos (by omega)]
      · rw [if_neg h0, if_neg (by omega)]
theorem okPal_shape {P : List (List Int)} {four : Int} (hl : P.length ≤ 256) (hr : ∀ (j : Nat) ns, P[j]? = some ns → rowOk four j ns) : okPal P = decide (0 < P.length) := by
  unfold okPal
  rw [shape_ok P four false (fun h => nomatch h) hr, decide_eq_true hl]
  simp
end Mine
end
section
open PySem PySem.W PySem.Calls PyProof.Rows
set_option Elab.async false
set_option maxRecDepth 100000
set_option maxHeartbeats 2000000
namespace Mine
section
variable {prog : Program} {w : World} {A : Around} {E : Value → Shared → Prop} {s : Shared} {h₀ : Heap}
theorem appendQ {D L : Addr} {m : Str → Option Value} {ws : List Value} {nn : Nat} {v : Value} {q rest : List (Addr × Obj)} {Q : Value → Shared → Prop} (F : Fr h₀ L s.heap m) (N : News h₀ L s.heap (q ++ (D, listOf ws.toArray nn) :: rest)) (hq : ∀ z ∈ q, z.1 ≠ D) (hr : ∀ z ∈ rest, z.1 ≠ D) (hw : ws.length ≤ 300)
    (h : ∀ h' n', Fr h₀ L h' m → News h₀ L h' (q ++ (D, listOf (ws ++ [v]).toArray n') :: rest) → Q .none { s with heap := h' }) : wpAny (model prog w) A (call (.builtin "list.append") [.ref D, v]) Q E s := by
  have hD := N (D, _) (List.mem_append_right _ (.head _))
  refine wpAny_list_append_plain (items := ws.toArray) (hsz := by rw [List.size_toArray]; have : 301 ≤ sizeLine := by decide
                                                                  omega) ⟨nn, hD.1⟩ fun h6 hp6 hs6 => ?_
  obtain ⟨n6, hn6⟩ := hp6
  obtain ⟨F', N'⟩ := led_but (o' := listOf (ws ++ [v]).toArray n6) F N hq hr (fun b o hb e => hs6.extBut b o hb e) (by rw [hn6]; simp)
  exact h h6 n6 F' N'
theorem lst_item {value slice : Expr} {l L : Addr} {vs : List Value} {nn : Nat} {k : Int} {u : Tok} {x : Value} {news : List (Addr × Obj)} {Q : Value → Shared → Prop} (N : News h₀ L s.heap news) (hm : (l, listOf vs.toArray nn) ∈ news) (h0 : 0 ≤ k) (hf : k < 2 ^ 63) (hx : vs[k.toNat]? = some x) (h : Q x s)
    (hs : subscripted slice false (.ref l) (.int k u) = operate [.ref l, .int k u] (getItem (.ref l) (.int k u)) := by with_unfolding_all rfl) : wpAny (model prog w) A (subscriptTail value slice (.ref l) (.int k u)) Q E s := by
  have hl : s.heap.IsList l vs.toArray := ⟨_, N.get hm, rfl, _, rfl⟩
  exact tail_any hl.typeIs slot_list_getitem.lookup (wpAny_getItem_list hl h0 hf (by simpa using hx) h) hs
theorem News.apart {h : Heap} {L : Addr} {news : List (Addr × Obj)} (N : News h₀ L h news) {p q : Addr × Obj} (hp : p ∈ news) (hq : q ∈ news) (hne : p.2 ≠ q.2) : p.1 ≠ q.1 := fun e => by
  have h1 := (N p hp).1
  have h2 := (N q hq).1
  rw [e] at h1
  exact hne (Option.some.inj (h1.symm.trans h2))
end
theorem refs_snoc (es : List (Addr × Obj)) (x : Addr × Obj) : refs (es ++ [x]) = refs es ++ [.ref x.1] := by simp [refs]
theorem ents_data {es : List (Addr × Obj)} {P : List (List Int)} (h : Ents es P) : ∀ p ∈ es, ∀ vs, p.2.data ≠ .fields vs := by
  induction h with
  | nil => intro p hp; cases hp
  | cons a _ _ _ ih =>
    intro p hp vs
    rcases List.mem_cons.mp hp with rfl | hp
    · intro q; cases q
    · exact ih p hp vs
theorem ents_snoc {es : List (Addr × Obj)} {P : List (List Int)} (h : Ents es P) {D : Addr} {vs : List Value} {ns : List Int} (hI : IntsAre vs ns) (h5 : ns.length ≤ 5) : Ents (es ++ [(D, ({ cls := .type "tuple", data := .seq vs.toArray } : Obj))]) (P ++ [ns]) := by
  induction h with
  | nil => exact .cons D hI h5 .nil
  | cons a b c _ ih => exact .cons a b c ih
local macro_rules | `(tactic| walk_at "eval Name") => `(tactic| ((with_reducible rename Heap.Ns _ _ _ => nsH); (with_reducible rename _ = some _ => nsE); (k_dflt (refine' wpAny_Name (wpAny_loadName_local ?k1 ?k2 nsH nsE ?_) ?k3; (case k1 => exact rfl); (case k2 => exact rfl); (case k3 => decide)))))
local macro_rules | `(tactic| walk_at "eval Name") => `(tactic| ((with_reducible rename Heap.Ns _ _ _ => nsH); (with_reducible rename News _ _ _ _ => nN); (k_dflt (refine' wpAny_Name (wpAny_loadName_cell ?k1 ?k2 ?kc ⟨_, (News.get nN ?km), ?kd⟩ ?_) ?k3; (case k1 => exact rfl); (case k2 => exact rfl); (case kc => exact rfl); (case km => k_mem); (case kd => assumption); (case k3 => decide)))))
local macro_rules | `(tactic| walk_at "subscriptTail Name Constant ref int") => `(tactic| ((with_reducible rename News _ _ _ _ => nN); (k_dflt (refine' lst_item nN ?km ?k0 ?kf ?kx ?_; (case km => k_mem); (case k0 => decide); (case kf => decide); (case kx => rfl)))))
local macro_rules | `(tactic| walk_at "eval ListComp") => `(tactic| (k_here; (with_reducible rename Fr _ _ _ _ => fF); (k_dflt (refine' compR (fun z => 0 ≤ z ∧ z ≤ 255) fF ?hA ?hclos ?hcell ?hkind ?hnames ?hx ?_ ?hs; (case hA => exact rfl); (case hclos => exact rfl); (case hcell => decide); (case hkind => exact rfl); (case hnames => decide); (case hx => exact rfl); (case hs => intro _; exact rfl)))))
local macro_rules | `(tactic| walk_at "exec For Name Call") => `(tactic| (k_here; refine Stop.mk ?_))
set_option pp.deepTerms false in
theorem palLoop : ∀ (w : World) (mean : ExcName → Option Value) (mg mb : Str → Option Value) (Lw aw : Addr) (ccw : Value) (L a : Addr) (ccd : Value) (g : Heap) (m0 : Str → Option Value) (s : Shared) (Q : Flow → Shared → Prop) (E : Value → Shared → Prop) (e f : Addr) (b4 b3 : Int) (u4 u3 : Tok) (a0 a1 a2 a3 a4 a5 a6 a7 a8 : Int) (n : Nat) (t0 t1 t2 t3 t4 t5 t6 t7 t8 : Tok) (x1 x2 x3 : Addr × Obj) (ok oc : Obj) (d1 d2 d3 : Option Value)
  (_ : Fr g L s.heap (fun y => if y = Str.ofString "entries" then some (.ref e) else if y = Str.ofString "three" then some (.int b3 u3) else if y = Str.ofString "four" then some (.int b4 u4) else m0 y)) (_ : (hd.heap_39 w.params).In g)
  (_ : News g L s.heap [(e, listOf ([] : List Value).toArray 0), (L + 1 + 1, ok), (L + 1, oc), (f, listOf [Value.int a0 t0, Value.int a1 t1, Value.int a2 t2, Value.int a3 t3, Value.int a4 t4, Value.int a5 t5, Value.int a6 t6, Value.int a7 t7, Value.int a8 t8].toArray n), x1, x2, x3])
  (_ : Top hd.view_39 (looseW hd.view_39 []) mean mg mb g) (_ : ok.data = .cell none) (_ : oc.data = .cell (some (.ref f))) (_ : x1.2.data = .cell d1) (_ : x2.2.data = .cell d2) (_ : x3.2.data = .cell d3)
  (_ : 0 ≤ b4) (_ : b4 ≤ 2) (_ : 0 ≤ b3) (_ : b3 ≤ 2) (_ : ∀ p ∈ [(f, listOf #[] 0), x1, x2, x3], p.1 < L) (_ : L + 1 + 1 < e) (hE : PassesOwn (model Challenge.rw_ax6025_01.row.prog w) ((callerA.deeper (lawEnv Lw aw ccw)).deeper (palEnv L a ccd)) (palEnv L a ccd) E)
  (_ : ∀ (h' : Heap) (tk' : Tok) (m' : Str → Option Value) (ok' : Obj) (nn : Nat) (v : Option Value) (es : List (Addr × Obj)) (P : List (List Int)), m' (Str.ofString "entries") = some (.ref e) → m' (Str.ofString "four") = some (.int b4 u4) → Fr g L h' m' → ok'.data = .cell v → Ents es P → P.length = (b4 + b3).toNat →
      (∀ p ∈ es, p.1 ≠ e) → (∀ (j : Nat) ns, P[j]? = some ns → rowOk b4 j ns) →
      News g L h' ((e, listOf (refs es).toArray nn) :: (L + 1 + 1, ok') :: (L + 1, oc) :: (f, listOf [Value.int a0 t0, Value.int a1 t1, Value.int a2 t2, Value.int a3 t3, Value.int a4 t4, Value.int a5 t5, Value.int a6 t6, Value.int a7 t7, Value.int a8 t8].toArray n) :: x1 :: x2 :: x3 :: es) → Q .next { s with heap := h', toks := tk' }),
  wpAny (model Challenge.rw_ax6025_01.row.prog w) ((callerA.deeper (lawEnv Lw aw ccw)).deeper (palEnv L a ccd)) (execs ((palStmts 2).take 1) (palEnv L a ccd)) Q E s := by
  w_on
  k_fill
  intros
  rename_i w mean mg mb Lw aw ccw L a ccd g m0 s Q E e f b4 b3 u4 u3 a0 a1 a2 a3 a4 a5 a6 a7 a8 n t0 t1 t2 t3 t4 t5 t6 t7 t8 x1 x2 x3 ok oc d1 d2 d3 F X N T dok doc dx1 dx2 dx3 p40 p41 p30 p31 hlow hep hPO hQ
  conv in execs _ _ => arg 1; whnf
  k_steps
  unfold Stop
  generalize hfl : listOf [Value.int a0 t0, Value.int a1 t1, Value.int a2 t2, Value.int a3 t3, Value.int a4 t4, Value.int a5 t5, Value.int a6 t6, Value.int a7 t7, Value.int a8 t8].toArray n = fl at N hQ
  obtain ⟨nn, hnn⟩ : ∃ nn : Nat, (nn : Int) = b4 + b3 := ⟨(b4 + b3).toNat, by omega⟩
  have hnn4 : nn ≤ 4 := by omega
  have hnt : (b4 + b3).toNat = nn := by omega
  have hsize : Builtin.Range.rangeSize 0 (nn : Int) 1 = (nn : Int) := by
    unfold Builtin.Range.rangeSize
    simp
    omega
  have hsmall : Builtin.Range.small 0 (nn : Int) 1 = true := by
    unfold Builtin.Range.small
    rw [hsize]
    unfold Builtin.Range.rangeFitsLong
    simp
    omega
  rw [hnt] at hQ
  have hfd : ∀ vs, fl.data ≠ .fields vs := by rw [← hfl]; intro vs q; cases q
  refine forRangeT (fun i m nw => m (Str.ofString "entries") = some (.ref e) ∧ m (Str.ofString "three") = some (.int b3 u3) ∧ m (Str.ofString "four") = some (.int b4 u4) ∧ ∃ es P kk ok' v, nw = (e, listOf (refs es).toArray kk) :: (L + 1 + 1, ok') :: (L + 1, oc) :: (f, fl) :: x1 :: x2 :: x3 :: es ∧ ok'.data = .cell v ∧ Ents es P ∧ P.length = i ∧
      (∀ p ∈ es, p.1 ≠ e ∧ p.1 ≠ L + 1 + 1) ∧ ∀ (j : Nat) ns, P[j]? = some ns → rowOk b4 j ns) rfl F N ?hdat (by intro _; rfl) hPO ?iter hsmall hsize (by intro _ _; rfl) ⟨rfl, rfl, rfl, [], [], 0, ok, none, rfl, dok, .nil, rfl, (fun p hp => absurd hp (by simp)), (fun j ns h => absurd h (by simp))⟩ ?step ?done
  case hdat =>
    rintro i m nw ⟨_, _, _, es, P, kk, ok', v, rfl, dk, hEs, _⟩ p hp vs
    simp only [List.mem_cons] at hp
    rcases hp with rfl | rfl | rfl | rfl | rfl | rfl | rfl | hp
    · intro q; cases q
    · rw [dk]; intro q; cases q
    · rw [doc]; intro q; cases q
    · exact hfd vs
    · rw [dx1]; intro q; cases q
    · rw [dx2]; intro q; cases q
    · rw [dx3]; intro q; cases q
    · exact ents_data hEs p hp vs
  case iter =>
    intro Q' hQ'
    k_steps
    rename IsRange _ _ _ _ _ _ _ _ => hr
    rename ∀ b o, _ = _ → _ = _ => hk
    exact hQ' _ _ _ _ _ _ (by rw [hnn]; exact hr) (fun b o e => hk b o e)
  case step =>
    rintro i t m1 nw ⟨hp, gg, dd, tk1, os1⟩ own hi ⟨e1, e2, e3, es, P, kk, ok', v, rfl, dk, hEs, hPl, hap, hrow⟩ hown F1 N1
    rw [three_known e1 e2 e3] at F1
    clear F N e1 e2 e3
    subst hfl
    refine wpAny_assign_Name ?_
    refine stCN (own := [(e, _)]) F1 N1 rfl dk ?s1 ?s2 ?_
    case s1 =>
      intro p hp
      rw [List.mem_singleton.mp hp]
      exact Nat.ne_of_gt hep
    case s2 =>
      intro p hp
      rcases List.mem_append.mp hp with hp | hp
      · simp only [List.mem_cons] at hp
        rcases hp with rfl | rfl | rfl | rfl | rfl | hp
        · exact Nat.ne_of_lt (Nat.lt_succ_self _)
        · exact Nat.ne_of_lt (Nat.lt_succ_of_lt (Nat.lt_succ_of_lt (hlow (f, listOf #[] 0) (.head _))))
        · exact Nat.ne_of_lt (Nat.lt_succ_of_lt (Nat.lt_succ_of_lt (hlow _ (.tail _ (.head _)))))
        · exact Nat.ne_of_lt (Nat.lt_succ_of_lt (Nat.lt_succ_of_lt (hlow _ (.tail _ (.tail _ (.head _))))))
        · exact Nat.ne_of_lt (Nat.lt_succ_of_lt (Nat.lt_succ_of_lt (hlow _ (.tail _ (.tail _ (.tail _ (.head _)))))))
        · exact (hap p hp).2
      · exact Ne.symm (hown p hp (L + 1 + 1, ok') (.tail _ (.head _)))
    intro h2 o2 F2 N2 d2'
    clear F1 N1
    dsimp only
    k_steps
    · rename IsRange _ _ _ _ _ _ _ _ => hr
      rename Fr _ _ _ _ => F3
      rename News _ _ _ _ => N3

      refine ⟨_, 4, _, _, _, _, rfl, hr, by decide, F3, N3, ?_, ?_⟩
      · intro i2 tj ys C D oC own2 k h tk E' mC hi2 F4 N4 hNs hm hCD
        clear F3 N3
        dsimp only
        have h3k : (3 : Int) ^ (Int.toNat (i : Int)) ≠ 0 := Int.pow_ne_zero (by decide)
        have hi4 : (i : Int) < 4 := by omega
        have hi0 : (0 : Int) ≤ (i : Int) := by omega
        k_steps
        · exact absurd (by assumption) h3k
        · (rename Fr _ _ _ _ => F9); exact F9
        · (rename News _ _ _ _ => N9); exact N9
      · intro D kd h5 tk5 ys zs F5 N5 hnD hzI hzl hzok
        clear F3 N3
        dsimp only
        k_steps
        rename Fr _ _ _ _ => F5
        rename News _ _ _ _ => N5
        have hz5 : zs.length ≤ 5 := by omega
        have hys : ys.length ≤ sizeLine := by
          rw [hzI.length]
          exact Nat.le_trans hz5 (by decide)
        rename_i D9 h9 l9
        show wpAny _ _ (call (Value.builtin "list.append") [Value.ref e, Value.ref D9]) _ _ _
        have hlE := hEs.length
        have N6 : News g L h9 ([(D9, ({ cls := .type "tuple", data := .seq ys.toArray } : Obj)), (D, listOf ys.toArray kd)] ++ (e, listOf (refs es).toArray kk) :: ((L + 1 + 1, o2) :: (L + 1, oc) :: (f, listOf [Value.int a0 t0, Value.int a1 t1, Value.int a2 t2, Value.int a3 t3, Value.int a4 t4, Value.int a5 t5, Value.int a6 t6, Value.int a7 t7, Value.int a8 t8].toArray n) :: x1 :: x2 :: x3 :: (es ++ own))) := N5
        refine appendQ (q := [(D9, _), (D, _)]) F5 N6 ?q1 ?q2 ?q3 ?_
        case q1 =>
          intro z hz
          simp only [List.mem_cons, List.not_mem_nil, or_false] at hz
          rcases hz with rfl | rfl
          · exact News.apart N5 (.head _) (.tail _ (.tail _ (.head _))) (fun q => by have q := congrArg Obj.cls q; injection q with q; exact absurd q (by decide))
          · exact Ne.symm (hnD (e, _) (.head _))
        case q2 =>
          intro z hz
          simp only [List.mem_cons, List.mem_append] at hz
          rcases hz with rfl | rfl | rfl | rfl | rfl | rfl | hz | hz
          · exact Nat.ne_of_lt hep
          · exact Nat.ne_of_lt (Nat.lt_trans (Nat.lt_succ_self _) hep)
          · exact Nat.ne_of_lt (Nat.lt_trans (Nat.lt_succ_of_lt (Nat.lt_succ_of_lt (hlow (f, listOf #[] 0) (.head _)))) hep)
          · exact Nat.ne_of_lt (Nat.lt_trans (Nat.lt_succ_of_lt (Nat.lt_succ_of_lt (hlow _ (.tail _ (.head _))))) hep)
          · exact Nat.ne_of_lt (Nat.lt_trans (Nat.lt_succ_of_lt (Nat.lt_succ_of_lt (hlow _ (.tail _ (.tail _ (.head _)))))) hep)
          · exact Nat.ne_of_lt (Nat.lt_trans (Nat.lt_succ_of_lt (Nat.lt_succ_of_lt (hlow _ (.tail _ (.tail _ (.tail _ (.head _))))))) hep)
          · exact (hap z hz).1
          · exact Ne.symm (hown z hz (e, listOf (refs es).toArray kk) (.head _))
        case q3 => (rw [refs_length, hlE]; omega)
        intro h7 n7 F7 N7
        dsimp only
        refine wpAny_pure (a := Flow.next) ?_
        have hD9e : D9 ≠ e := News.apart N5 (.head _) (.tail _ (.tail _ (.head _))) (fun q => by have q := congrArg Obj.cls q; injection q with q; exact absurd q (by decide))
        have hD9k : D9 ≠ L + 1 + 1 := News.apart N5 (.head _) (.tail _ (.tail _ (.tail _ (.head _)))) (fun q => by have q := congrArg Obj.data q; rw [d2'] at q; cases q)
        rw [← refs_snoc es (D9, ({ cls := .type "tuple", data := .seq ys.toArray } : Obj))] at N7
        refine ⟨rfl, h7, _, _, (e, listOf (refs (es ++ [(D9, ({ cls := .type "tuple", data := .seq ys.toArray } : Obj))])).toArray n7) :: (L + 1 + 1, o2) :: (L + 1, oc) :: (f, _) :: x1 :: x2 :: x3 :: (es ++ [(D9, ({ cls := .type "tuple", data := .seq ys.toArray } : Obj))]), rfl, F7, ?n7, rfl, rfl, rfl, _, P ++ [zs], n7, o2, _, rfl, d2', ents_snoc hEs hzI hz5, ?l7, ?a7, ?r7⟩
        case n7 =>
          intro p hp
          refine N7 p ?_
          simp only [List.mem_cons, List.mem_append, List.not_mem_nil, or_false, List.nil_append, List.cons_append] at hp ⊢
          rcases hp with q | q | q | q | q | q | q | (q | q) | q
          all_goals simp only [q, true_or, or_true]
        case l7 => (rw [List.length_append, hPl]; rfl)
        case a7 =>
          intro p hp
          rcases List.mem_append.mp hp with hp | hp
          · exact hap p hp
          · rw [List.mem_singleton.mp hp]; exact ⟨hD9e, hD9k⟩
        case r7 =>
          intro j ns hj
          by_cases hjl : j < P.length
          · rw [List.getElem?_append_left hjl] at hj
            exact hrow j ns hj
          · have hj2 : j = P.length := by
              have := (List.getElem?_eq_some_iff.mp hj).1
              rw [List.length_append] at this
              simp at this
              omega
            subst hj2
            obtain rfl : zs = ns := by simpa using hj
            refine ⟨?_, hzok⟩
            rw [hPl, hzl]
            first | rw [if_pos (by assumption)] | rw [if_neg (by assumption)]
    · rename IsRange _ _ _ _ _ _ _ _ => hr
      rename Fr _ _ _ _ => F3
      rename News _ _ _ _ => N3

      refine ⟨_, 3, _, _, _, _, rfl, hr, by decide, F3, N3, ?_, ?_⟩
      · intro i2 tj ys C D oC own2 k h tk E' mC hi2 F4 N4 hNs hm hCD
        clear F3 N3
        dsimp only
        have h3k : (3 : Int) ^ (Int.toNat (i : Int)) ≠ 0 := Int.pow_ne_zero (by decide)
        have hi4 : (i : Int) < 4 := by omega
        have hi0 : (0 : Int) ≤ (i : Int) := by omega
        k_steps
        · exact absurd (by assumption) h3k
        · (rename Fr _ _ _ _ => F9); exact F9
        · (rename News _ _ _ _ => N9); exact N9
      · intro D kd h5 tk5 ys zs F5 N5 hnD hzI hzl hzok
        clear F3 N3
        dsimp only
        k_steps
        rename Fr _ _ _ _ => F5
        rename News _ _ _ _ => N5
        have hz5 : zs.length ≤ 5 := by omega
        have hys : ys.length ≤ sizeLine := by
          rw [hzI.length]
          exact Nat.le_trans hz5 (by decide)
        rename_i D9 h9 l9
        show wpAny _ _ (call (Value.builtin "list.append") [Value.ref e, Value.ref D9]) _ _ _
        have hlE := hEs.length
        have N6 : News g L h9 ([(D9, ({ cls := .type "tuple", data := .seq ys.toArray } : Obj)), (D, listOf ys.toArray kd)] ++ (e, listOf (refs es).toArray kk) :: ((L + 1 + 1, o2) :: (L + 1, oc) :: (f, listOf [Value.int a0 t0, Value.int a1 t1, Value.int a2 t2, Value.int a3 t3, Value.int a4 t4, Value.int a5 t5, Value.int a6 t6, Value.int a7 t7, Value.int a8 t8].toArray n) :: x1 :: x2 :: x3 :: (es ++ own))) := N5
        refine appendQ (q := [(D9, _), (D, _)]) F5 N6 ?q1 ?q2 ?q3 ?_
        case q1 =>
          intro z hz
          simp only [List.mem_cons, List.not_mem_nil, or_false] at hz
          rcases hz with rfl | rfl
          · exact News.apart N5 (.head _) (.tail _ (.tail _ (.head _))) (fun q => by have q := congrArg Obj.cls q; injection q with q; exact absurd q (by decide))
          · exact Ne.symm (hnD (e, _) (.head _))
        case q2 =>
          intro z hz
          simp only [List.mem_cons, List.mem_append] at hz
          rcases hz with rfl | rfl | rfl | rfl | rfl | rfl | hz | hz
          · exact Nat.ne_of_lt hep
          · exact Nat.ne_of_lt (Nat.lt_trans (Nat.lt_succ_self _) hep)
          · exact Nat.ne_of_lt (Nat.lt_trans (Nat.lt_succ_of_lt (Nat.lt_succ_of_lt (hlow (f, listOf #[] 0) (.head _)))) hep)
          · exact Nat.ne_of_lt (Nat.lt_trans (Nat.lt_succ_of_lt (Nat.lt_succ_of_lt (hlow _ (.tail _ (.head _))))) hep)
          · exact Nat.ne_of_lt (Nat.lt_trans (Nat.lt_succ_of_lt (Nat.lt_succ_of_lt (hlow _ (.tail _ (.tail _ (.head _)))))) hep)
          · exact Nat.ne_of_lt (Nat.lt_trans (Nat.lt_succ_of_lt (Nat.lt_succ_of_lt (hlow _ (.tail _ (.tail _ (.tail _ (.head _))))))) hep)
          · exact (hap z hz).1
          · exact Ne.symm (hown z hz (e, listOf (refs es).toArray kk) (.head _))
        case q3 => (rw [refs_length, hlE]; omega)
        intro h7 n7 F7 N7
        dsimp only
        refine wpAny_pure (a := Flow.next) ?_
        have hD9e : D9 ≠ e := News.apart N5 (.head _) (.tail _ (.tail _ (.head _))) (fun q => by have q := congrArg Obj.cls q; injection q with q; exact absurd q (by decide))
        have hD9k : D9 ≠ L + 1 + 1 := News.apart N5 (.head _) (.tail _ (.tail _ (.tail _ (.head _)))) (fun q => by have q := congrArg Obj.data q; rw [d2'] at q; cases q)
        rw [← refs_snoc es (D9, ({ cls := .type "tuple", data := .seq ys.toArray } : Obj))] at N7
        refine ⟨rfl, h7, _, _, (e, listOf (refs (es ++ [(D9, ({ cls := .type "tuple", data := .seq ys.toArray } : Obj))])).toArray n7) :: (L + 1 + 1, o2) :: (L + 1, oc) :: (f, _) :: x1 :: x2 :: x3 :: (es ++ [(D9, ({ cls := .type "tuple", data := .seq ys.toArray } : Obj))]), rfl, F7, ?n7, rfl, rfl, rfl, _, P ++ [zs], n7, o2, _, rfl, d2', ents_snoc hEs hzI hz5, ?l7, ?a7, ?r7⟩
        case n7 =>
          intro p hp
          refine N7 p ?_
          simp only [List.mem_cons, List.mem_append, List.not_mem_nil, or_false, List.nil_append, List.cons_append] at hp ⊢
          rcases hp with q | q | q | q | q | q | q | (q | q) | q
          all_goals simp only [q, true_or, or_true]
        case l7 => (rw [List.length_append, hPl]; rfl)
        case a7 =>
          intro p hp
          rcases List.mem_append.mp hp with hp | hp
          · exact hap p hp
          · rw [List.mem_singleton.mp hp]; exact ⟨hD9e, hD9k⟩
        case r7 =>
          intro j ns hj
          by_cases hjl : j < P.length
          · rw [List.getElem?_append_left hjl] at hj
            exact hrow j ns hj
          · have hj2 : j = P.length := by
              have := (List.getElem?_eq_some_iff.mp hj).1
              rw [List.length_append] at this
              simp at this
              omega
            subst hj2
            obtain rfl : zs = ns := by simpa using hj
            refine ⟨?_, hzok⟩
            rw [hPl, hzl]
            first | rw [if_pos (by assumption)] | rw [if_neg (by assumption)]
  case done =>
    rintro h' tk m' nw F' N' ⟨e1, e2, e3, es, P, kk, ok', v, rfl, dk, hEs, hPl, hap, hrow⟩
    dsimp only
    refine wpAny_pure (a := Flow.next) ?_
    exact hQ h' tk m' ok' kk v es P e1 e3 F' dk hEs hPl (fun p hp => (hap p hp).1) hrow N'
end Mine
end
section
open PySem PySem.W PySem.Calls PyProof.Rows
set_option Elab.async false
set_option maxRecDepth 100000
set_option maxHeartbeats 4000000
namespace Mine
section
variable {prog : Program} {w : World} {A : Around} {E : Value → Shared → Prop} {s : Shared} {env : Env} {h₀ : Heap} {L : Addr} {m : Str → Option Value}
/-- how an element ends that makes a new tuple of ints -/
structure TupEnd (h₀ : Heap) (L : Addr) (m : Str → Option Value) (ok : Nat → List Int → Prop) (i : Nat) (C : Addr) (led : List (Addr × Obj)) (s₁ : Shared) (y : Value) (s₄ : Shared) : Prop where
  it : ∃ T vs ns h' tk', y = .ref T ∧ IntsAre vs ns ∧ ns.length ≤ 5 ∧ ok i ns ∧ s₄ = { s₁ with heap := h', toks := tk' } ∧ Fr h₀ L h' m ∧ C < T ∧ News h₀ L h' ((T, tupOf vs) :: led)
/-- what a comprehension of new tuples of ints over a range asks, behind its iterable -/
structure TupsNext (prog : Program) (w : World) (A : Around) (env : Env) (h₀ : Heap) (L : Addr) (m : Str → Option Value) (elt : Expr) (x : Str) (scope : Scope) (cl : List (Str × Addr)) (ok : Nat → List Int → Prop) (mD : Addr → Str → Option Value) (QD : Addr → Shared → Prop) (xv : Value) (s₁ : Shared) : Prop where
  it : ∃ (r : Addr) (n : Nat) (t u v : Tok) (base : List (Addr × Obj)), xv = .ref r ∧ IsRange s₁.heap r 0 n 1 t u v ∧ n ≤ 300 ∧ Fr h₀ L s₁.heap m ∧ News h₀ L s₁.heap base ∧
      (∀ (i : Nat) t0 ys C D oC es own k h tk E' mC, i < n → Fr h₀ L h m → News h₀ L h ((C, oC) :: (D, listOf ys k) :: (base ++ (es ++ own))) → h.Ns C mC → mC x = some (.int (i : Int) t0) → C ≠ D →
        wpAny (model prog w) A (eval elt (compEnvC scope cl C env)) (TupEnd h₀ L m ok i C ((C, oC) :: (D, listOf ys k) :: (base ++ (es ++ own))) s₁) E' { s₁ with heap := h, toks := tk }) ∧
      (∀ D k h' tk es P, Fr h₀ L h' (mD D) → News h₀ L h' ((D, listOf (refs es).toArray k) :: (base ++ es)) → (∀ p ∈ base ++ es, p.1 ≠ D) → Ents es P → P.length = n → (∀ (i : Nat) ns, P[i]? = some ns → ok i ns) → QD D { s₁ with heap := h', toks := tk })
theorem tups_body {elt : Expr} {x : Str} {scope : Scope} {cl : List (Str × Addr)} {mD : Addr → Str → Option Value} {QD : Addr → Shared → Prop} (ok : Nat → List Int → Prop) (hA : A.handled = none) {xv : Value} {s₁ : Shared}
    (h₁ : TupsNext prog w A env h₀ L m elt x scope cl ok mD QD xv s₁) :
    wpAny (model prog w) A (pyIter xv) (fun it s₂ => ∃ (I : Addr) (fp wr : List Addr) (n : Nat) (P : Nat → Value → Prop) (St : Nat → Heap → Prop) (news : List (Addr × Obj)) (J : Nat → List Value → List (Addr × Obj) → Prop),
      it = .ref I ∧ Walks prog w A I fp wr n P St ∧ n ≤ sizeLine ∧ St 0 s₂.heap ∧ (∀ b ∈ fp, b < s₂.heap.objs.size) ∧ L ∉ fp ∧ (∀ b ∈ wr, h₀.get? b = none) ∧ (∀ p ∈ news, p.1 ∉ wr) ∧ Fr h₀ L s₂.heap m ∧ News h₀ L s₂.heap news ∧ J 0 [] news ∧
      (∀ i ys nw, J i ys nw → ys.length ≤ i) ∧
      CStep prog w A env h₀ L m scope cl x [] elt wr n P J s₂ ∧
      (∀ D k ys news₁ h' tk, J n ys news₁ → Fr h₀ L h' (mD D) → News h₀ L h' ((D, listOf ys.toArray k) :: news₁) → (∀ p ∈ news₁, p.1 ≠ D) → QD D { s₂ with heap := h', toks := tk })) E s₁ := by
  obtain ⟨r, n, t, u, v, base, rfl, hr, hn, F, N, step, done⟩ := h₁.it
  have hsize : Builtin.Range.rangeSize 0 (n : Int) 1 = (n : Int) := by
    unfold Builtin.Range.rangeSize
    simp
    omega
  have hsmall : Builtin.Range.small 0 (n : Int) 1 = true := by
    unfold Builtin.Range.small
    rw [hsize]
    unfold Builtin.Range.rangeFitsLong
    simp
    omega
  have hLlt : @LT.lt Nat _ L s₁.heap.objs.size := F.ns.lt
  refine wpAny_pyIter_range hr hsmall ?_
  have up : ∀ b o, s₁.heap.get? b = some o → (s₁.heap.push { cls := .type "range_iterator", data := .fields #[rawInt 0, rawInt (Builtin.Range.rangeSize 0 (n : Int) 1), rawInt 1] }).get? b = some o := fun b o e => Heap.get?_push_of_some _ e
  have hit : (s₁.heap.push { cls := .type "range_iterator", data := .fields #[rawInt 0, rawInt (Builtin.Range.rangeSize 0 (n : Int) 1), rawInt 1] }).get? s₁.heap.objs.size = some { cls := .type "range_iterator", data := .fields #[rawInt 0, rawInt (Builtin.Range.rangeSize 0 (n : Int) 1), rawInt 1] } := Heap.get?_push_size _ rfl
  have F₂ := F.keeps up
  have N₂ := N.grown up
  have hnI : ∀ p ∈ base, p.1 ∉ [s₁.heap.objs.size] := fun p hp q => Nat.ne_of_lt (Heap.lt_size (N p hp).1) (List.mem_singleton.mp q)
  refine ⟨s₁.heap.objs.size, _, _, n, _, _, base, fun i ys nw => ∃ es P, nw = base ++ es ∧ ys = refs es ∧ Ents es P ∧ P.length = i ∧ ∀ (j : Nat) ns, P[j]? = some ns → ok j ns, rfl, Walks.range hA s₁.heap.objs.size 0 1 n, ?_, ?_, ?_, ?_, ?_, hnI, F₂, N₂, ⟨[], [], by simp, rfl, .nil, rfl, fun j ns h => by simp at h⟩, ?_, ?_, ?_⟩
  · have : 300 ≤ sizeLine := by decide
    omega
  · show IsRangeIter _ _ _ _ _
    rw [hsize] at hit ⊢
    simpa using hit
  · intro b hb
    rw [List.mem_singleton.mp hb]
    show @LT.lt Nat _ s₁.heap.objs.size (s₁.heap.push _).objs.size
    rw [Heap.size_push]; exact Nat.lt_succ_self _
  · intro q; exact Nat.ne_of_lt hLlt (List.mem_singleton.mp q)
  · intro b hb
    rw [List.mem_singleton.mp hb]
    exact Heap.get?_none_of_le (Nat.le_trans F.above (Nat.le_of_lt hLlt))
  · rintro i ys nw ⟨es, P, _, rfl, hE, hl, _⟩
    rw [refs_length, hE.length, hl]; exact Nat.le_refl _
  · intro i v ys news₁ C D oC k h tk own E' hi hP hJ F₃ N₃ hC hCD hwrC hnw
    obtain ⟨es, P, rfl, rfl, hE, hl, hok⟩ := hJ
    obtain ⟨t0, rfl⟩ := hP
    obtain ⟨mC, hNs, hm⟩ := hC h (N₃ _ (.head _)).1
    have e : (0 : Int) + (i : Nat) * 1 = (i : Int) := by omega
    rw [e] at hm
    simp only [List.forIn_nil]
    refine wpAny_pure ?_
    simp only [if_true]
    refine wpAny_mono (step i t0 (refs es).toArray C D oC es own k h tk E' mC hi F₃ (by rw [List.append_assoc] at N₃; exact N₃) hNs hm hCD) (fun y s₄ h₄ => ?_) fun _ _ e => e
    obtain ⟨T, vs, ns, h', tk', rfl, hI, h5, hokn, rfl, F₄, hCT, N₄⟩ := h₄.it
    have hTD : T ≠ D := News.apart N₄ (.head _) (.tail _ (.tail _ (.head _))) (fun q => by have q := congrArg Obj.cls q; injection q with q; exact absurd q (by decide))
    refine CEnd.intro (base ++ (es ++ [(T, tupOf vs)])) F₄ N₄ (fun p hp => ?_) (fun p hp => ?_) ⟨es ++ [(T, tupOf vs)], P ++ [ns], rfl, (refs_snoc es (T, tupOf vs)).symm, ents_snoc hE hI h5, by rw [List.length_append, hl]; rfl, fun j ms hj => ?_⟩
    · simp only [List.mem_cons, List.mem_append, List.not_mem_nil, or_false] at hp ⊢
      rcases hp with q | q | (q | q | q) | q
      all_goals simp only [q, true_or, or_true]
    · rcases List.mem_append.mp hp with hp | hp
      · exact hnw p (List.mem_append_left _ hp)
      rcases List.mem_append.mp hp with hp | hp
      · exact hnw p (List.mem_append_right _ hp)
      · rw [List.mem_singleton.mp hp]
        exact ⟨Nat.ne_of_gt hCT, hTD, fun q => Nat.lt_asymm hCT (hwrC T q)⟩
    · by_cases hjl : j < P.length
      · rw [List.getElem?_append_left hjl] at hj
        exact hok j ms hj
      · have hj2 : j = P.length := by
          have := (List.getElem?_eq_some_iff.mp hj).1
          rw [List.length_append] at this
          simp at this
          omega
        subst hj2
        obtain rfl : ns = ms := by simpa using hj
        rw [hl]; exact hokn
  · rintro D k ys news₁ h' tk ⟨es, P, rfl, rfl, hE, hl, hok⟩ F₃ N₃ hne3
    exact done D k h' tk es P F₃ N₃ hne3 hE hl hok
theorem compU {elt iter : Expr} {x : Str} {px : Pos} {scope : Scope} {cl : List (Str × Addr)} {pos : Pos} {Q : Value → Shared → Prop} (ok : Nat → List Int → Prop) (_F0 : Fr h₀ L s.heap m)
    (hA : A.handled = none) (hclos : closureFor scope env = pure cl) (hcell : ∀ y ∈ scope.names, y.2 ≠ .cell) (hkind : scope.kind = .function)
    (hnames : ∀ y ∈ scope.names, y.2 = .local → scope.names.lookup y.1 = some .local) (hx : scope.names.lookup x = some .local)
    (h : wpAny (model prog w) A (eval iter env) (TupsNext prog w A env h₀ L m elt x scope cl ok (fun _ => m) (fun D => Q (.ref D))) E s)
    (hs : ∀ x, foldedSetIterable iter env x = pure x := by intro _; rfl) :
    wpAny (model prog w) A (eval (.ListComp elt [⟨.Name x px, iter, [], 0⟩] scope pos) env) Q E s :=
  compJ (h₀ := h₀) (L := L) (m := m) hclos hcell hkind hnames hx (wpAny_mono h (fun _ _ h₁ => tups_body ok hA h₁) fun _ _ e => e) hs
theorem assignU {elt iter : Expr} {x y : Str} {px py : Pos} {scope : Scope} {cl : List (Str × Addr)} {pos spos : Pos} {Q : Flow → Shared → Prop} (ok : Nat → List Int → Prop) (_F0 : Fr h₀ L s.heap m)
    (hsw : swapsWith (.ListComp elt [⟨.Name x px, iter, [], 0⟩] scope pos) (some (.Name y py)) spos.line env = pure true) (hL : env.locals = L) (hy : env.kindOf y = some .local) (hp : (env.scope.kind == .class || (env.scope.kind == .module && env.locals != env.globals)) = false)
    (hA : A.handled = none) (hclos : closureFor scope env = pure cl) (hcell : ∀ y ∈ scope.names, y.2 ≠ .cell) (hkind : scope.kind = .function)
    (hnames : ∀ y ∈ scope.names, y.2 = .local → scope.names.lookup y.1 = some .local) (hx : scope.names.lookup x = some .local)
    (h : wpAny (model prog w) A (eval iter env) (TupsNext prog w A env h₀ L m elt x scope cl ok (fun D => fun z => if z = y then some (.ref D) else m z) (fun _ => Q .next)) E s)
    (hs : ∀ x, foldedSetIterable iter env x = pure x := by intro _; rfl) :
    wpAny (model prog w) A (exec (.Assign [.Name y py] (.ListComp elt [⟨.Name x px, iter, [], 0⟩] scope pos) spos) env) Q E s :=
  assignG (h₀ := h₀) (L := L) (m := m) hsw hL hy hp hclos hcell hkind hnames hx (wpAny_mono h (fun _ _ h₁ => tups_body ok hA h₁) fun _ _ e => e) hs
end
end Mine
end
section
open PySem PySem.W PySem.Calls PyProof.Rows
set_option Elab.async false
set_option maxRecDepth 100000
set_option maxHeartbeats 8000000
namespace Mine
theorem fin_append {h₀ h : Heap} {L D T e : Addr} {d : Obj} {vs : List Value} {q0 c1 c2 fx x1 x2 x3 : Addr × Obj} {k : Nat} {es : List (Addr × Obj)} (N : News h₀ L h ((D, d) :: q0 :: ([(T, tupOf vs)] ++ (e, listOf (refs es ++ [Value.ref T]).toArray k) :: c1 :: c2 :: fx :: x1 :: x2 :: x3 :: es))) :
    News h₀ L h ((D, d) :: (e, listOf (refs (es ++ [(T, tupOf vs)])).toArray k) :: fx :: x1 :: x2 :: x3 :: (es ++ [(T, tupOf vs)])) := fun p hp => N p (by
  rw [refs_snoc] at hp
  simp only [List.mem_cons, List.mem_append, List.not_mem_nil, or_false, List.cons_append, List.nil_append] at hp ⊢
  rcases hp with q | q | q | q | q | q | (q | q)
  all_goals simp only [q, true_or, or_true])
section
variable {prog : Program} {w : World} {A : Around} {E : Value → Shared → Prop} {s : Shared}
/-- the list of the palette beside an empty one -/
theorem ne_empty {l b : Addr} {es : List (Addr × Obj)} {n k : Nat} {Q : Value → Shared → Prop} (hl : s.heap.get? l = some (listOf (refs es).toArray n)) (hb : s.heap.get? b = some (listOf ([] : List Value).toArray k)) (hu : A.units < cLine)
    (h : Q (.bool (decide (0 < es.length))) s) : wpAny (model prog w) A (compareOp .NotEq (.ref l) (.ref b)) Q E s := by
  by_cases h0 : es = []
  · subst h0
    refine ne_of_rc (b := false) (ne_refs (es := []) hl hb hu) ?_
    exact h
  · have hl0 : es.length ≠ 0 := fun q => h0 (List.length_eq_zero_iff.mp q)
    have e1 : decide (0 < es.length) = true := decide_eq_true (by omega)
    rw [e1] at h
    refine ne_of_rc (SeqAt.RcNeAt.lists_lengths ⟨_, hl, rfl, _, rfl⟩ ⟨_, hb, rfl, _, rfl⟩ ?_ hu) h
    rw [List.size_toArray, refs_length, bne_iff_ne]
    exact hl0
end
theorem ents_snoc2 {es : List (Addr × Obj)} {P : List (List Int)} (h : Ents es P) {D1 D2 : Addr} {v1 v2 : List Value} {n1 n2 : List Int} (i1 : IntsAre v1 n1) (k1 : n1.length ≤ 5) (i2 : IntsAre v2 n2) (k2 : n2.length ≤ 5) : Ents (es ++ [(D1, tupOf v1), (D2, tupOf v2)]) (P ++ [n1, n2]) := by
  have := ents_snoc (ents_snoc h i1 k1 (D := D1)) i2 k2 (D := D2)
  rw [List.append_assoc, List.append_assoc] at this
  exact this
theorem fin_add {h₀ h : Heap} {L D T1 T2 nl e : Addr} {d o : Obj} {v1 v2 : List Value} {q0 q1 c1 c2 fx x1 x2 x3 : Addr × Obj} {es : List (Addr × Obj)} (N : News h₀ L h ((D, d) :: q0 :: (nl, listOf (refs es ++ [Value.ref T1, Value.ref T2]).toArray 0) :: q1 :: (T2, tupOf v2) :: (T1, tupOf v1) :: (e, o) :: c1 :: c2 :: fx :: x1 :: x2 :: x3 :: es)) :
    News h₀ L h ((D, d) :: (nl, listOf (refs (es ++ [(T1, tupOf v1), (T2, tupOf v2)])).toArray 0) :: fx :: x1 :: x2 :: x3 :: (es ++ [(T1, tupOf v1), (T2, tupOf v2)])) := fun p hp => N p (by
  have e : refs (es ++ [(T1, tupOf v1), (T2, tupOf v2)]) = refs es ++ [Value.ref T1, Value.ref T2] := by simp [refs]
  rw [e] at hp
  simp only [List.mem_cons, List.mem_append, List.not_mem_nil, or_false] at hp ⊢
  rcases hp with q | q | q | q | q | q | (q | q | q)
  all_goals simp only [q, true_or, or_true])
theorem fin_slice {h₀ h : Heap} {L D T nl e : Addr} {d o : Obj} {v : List Value} {q0 q1 q2 c1 c2 fx x1 x2 x3 : Addr × Obj} {k : Nat} {es : List (Addr × Obj)} (N : News h₀ L h ((D, d) :: q0 :: (nl, listOf ([Value.ref T] ++ (refs es).drop k).toArray 0) :: q1 :: q2 :: (T, tupOf v) :: (e, o) :: c1 :: c2 :: fx :: x1 :: x2 :: x3 :: es)) :
    News h₀ L h ((D, d) :: (nl, listOf (refs ((T, tupOf v) :: es.drop k)).toArray 0) :: fx :: x1 :: x2 :: x3 :: ((T, tupOf v) :: es.drop k)) := fun p hp => N p (by
  have e : refs ((T, tupOf v) :: es.drop k) = [Value.ref T] ++ (refs es).drop k := by simp [refs, List.map_drop]
  rw [e] at hp
  simp only [List.mem_cons] at hp ⊢
  rcases hp with q | q | q | q | q | q | q | q
  · simp only [q, true_or]
  · simp only [q, true_or, or_true]
  · simp only [q, true_or, or_true]
  · simp only [q, true_or, or_true]
  · simp only [q, true_or, or_true]
  · simp only [q, true_or, or_true]
  · simp only [q, true_or, or_true]
  · have := List.mem_of_mem_drop q
    simp only [this, or_true])
theorem fin_same {h₀ h : Heap} {L : Addr} {z q0 q1 y c1 c2 fx x1 x2 x3 : Addr × Obj} {es : List (Addr × Obj)} (N : News h₀ L h (z :: q0 :: q1 :: y :: c1 :: c2 :: fx :: x1 :: x2 :: x3 :: es)) : News h₀ L h (z :: y :: fx :: x1 :: x2 :: x3 :: es) :=
  News.sub N (.cons_cons _ (.cons _ (.cons _ (.cons_cons _ (.cons _ (.cons _ (.refl _)))))))
theorem fin_comp {h₀ h : Heap} {L : Addr} {z q0 y e c1 c2 fx x1 x2 x3 : Addr × Obj} {es es2 : List (Addr × Obj)} (N : News h₀ L h (z :: q0 :: y :: (e :: c1 :: c2 :: fx :: x1 :: x2 :: x3 :: es ++ es2))) : News h₀ L h (z :: y :: fx :: x1 :: x2 :: x3 :: es2) := fun p hp => N p (by
  simp only [List.mem_cons, List.mem_append] at hp ⊢
  rcases hp with q | q | q | q | q | q | q
  all_goals simp only [q, true_or, or_true])
theorem Ents.drop {es : List (Addr × Obj)} {P : List (List Int)} (h : Ents es P) : ∀ k, Ents (es.drop k) (P.drop k) := by
  induction h with
  | nil => intro k; simp; exact .nil
  | cons a b c d ih =>
    intro k
    cases k with
    | zero => exact .cons a b c d
    | succ k => exact ih k
local macro_rules | `(tactic| walk_at "eval Name") => `(tactic| ((with_reducible rename Heap.Ns _ _ _ => nsH); (with_reducible rename _ = some _ => nsE); (k_dflt (refine' wpAny_Name (wpAny_loadName_local ?k1 ?k2 nsH nsE ?_) ?k3; (case k1 => exact rfl); (case k2 => exact rfl); (case k3 => decide)))))
local macro_rules | `(tactic| walk_at "call builtin:list.append") => `(tactic| (k_here; refine Stop.mk ?_))
local macro_rules | `(tactic| walk_at "binaryOp Add ref ref") => `(tactic| (k_here; refine Stop.mk ?_))
local macro_rules | `(tactic| walk_at "eval ListComp") => `(tactic| (k_here; refine Stop.mk ?_))
local macro_rules | `(tactic| walk_at "exec Assign cons ListComp") => `(tactic| (k_here; refine Stop.mk ?_))
local macro_rules | `(tactic| walk_at "subscriptTail Name Slice ref ref") => `(tactic| (k_here; refine Stop.mk ?_))
local macro_rules | `(tactic| walk_at "compareOp NotEq ref ref") => `(tactic| (k_here; refine Stop.mk ?_))
set_option pp.deepTerms false in
theorem palTail : ∀ (w : World) (mean : ExcName → Option Value) (mg mb : Str → Option Value) (Lw aw : Addr) (ccw : Value) (L a : Addr) (ccd : Value) (g : Heap) (m0 : Str → Option Value) (s : Shared) (Q : Flow → Shared → Prop) (E : Value → Shared → Prop) (e f : Addr) (b4 b3 : Int) (u4 : Tok) (a0 a1 a2 a3 a4 a5 a6 a7 a8 : Int) (n nn : Nat) (t0 t1 t2 t3 t4 t5 t6 t7 t8 : Tok) (x1 x2 x3 : Addr × Obj) (ok oc : Obj) (v : Option Value) (es : List (Addr × Obj)) (P : List (List Int))
  (_ : Fr g L s.heap (fun y => if y = Str.ofString "entries" then some (.ref e) else if y = Str.ofString "four" then some (.int b4 u4) else m0 y)) (_ : (hd.heap_39 w.params).In g)
  (_ : News g L s.heap ((e, listOf (refs es).toArray nn) :: (L + 1 + 1, ok) :: (L + 1, oc) :: (f, listOf [Value.int a0 t0, Value.int a1 t1, Value.int a2 t2, Value.int a3 t3, Value.int a4 t4, Value.int a5 t5, Value.int a6 t6, Value.int a7 t7, Value.int a8 t8].toArray n) :: x1 :: x2 :: x3 :: es))
  (_ : Top hd.view_39 (looseW hd.view_39 []) mean mg mb g) (_ : ok.data = .cell v) (_ : oc.data = .cell (some (.ref f)))
  (_ : 0 ≤ b4) (_ : b4 ≤ 2) (_ : 0 ≤ b3) (_ : b3 ≤ 2) (_ : ∀ p ∈ (L + 1 + 1, ok) :: (L + 1, oc) :: (f, listOf #[] 0) :: x1 :: x2 :: x3 :: es, p.1 ≠ e) (_ : Ents es P) (_ : P.length = (b4 + b3).toNat) (_ : ∀ (j : Nat) ns, P[j]? = some ns → rowOk b4 j ns)
  (_ : ∀ (h' : Heap) (tk' : Tok) (m' : Str → Option Value) (D e' : Addr) (n2 : Nat) (es' : List (Addr × Obj)) (P' : List (List Int)) (fine : Bool), Ents es' P' → es'.length ≤ 260 → okPal P' = fine → Fr g L h' m' →
      News g L h' ((D, ({ cls := .type "tuple", data := .seq [Value.ref e', Value.bool fine].toArray } : Obj)) :: (e', listOf (refs es').toArray n2) :: (f, listOf [Value.int a0 t0, Value.int a1 t1, Value.int a2 t2, Value.int a3 t3, Value.int a4 t4, Value.int a5 t5, Value.int a6 t6, Value.int a7 t7, Value.int a8 t8].toArray n) :: x1 :: x2 :: x3 :: es') → Q (.ret (.ref D)) { s with heap := h', toks := tk' }),
  wpAny (model Challenge.rw_ax6025_01.row.prog w) ((callerA.deeper (lawEnv Lw aw ccw)).deeper (palEnv L a ccd)) (execs (palStmts 3) (palEnv L a ccd)) Q E s := by
  w_on
  k_fill
  intros
  rename_i w mean mg mb Lw aw ccw L a ccd g m0 s Q E e f b4 b3 u4 a0 a1 a2 a3 a4 a5 a6 a7 a8 n nn t0 t1 t2 t3 t4 t5 t6 t7 t8 x1 x2 x3 ok oc v es P F X N T dok doc p40 p41 p30 p31 hne hE hPl hrow hQ
  have hne9 : ∀ p ∈ (L + 1 + 1, ok) :: (L + 1, oc) :: (f, listOf [Value.int a0 t0, Value.int a1 t1, Value.int a2 t2, Value.int a3 t3, Value.int a4 t4, Value.int a5 t5, Value.int a6 t6, Value.int a7 t7, Value.int a8 t8].toArray n) :: x1 :: x2 :: x3 :: es, p.1 ≠ e := by
    intro p hp
    simp only [List.mem_cons] at hp
    rcases hp with rfl | rfl | rfl | rfl | rfl | rfl | hp
    · exact hne (L + 1 + 1, ok) (by simp)
    · exact hne (L + 1, oc) (by simp)
    · exact hne (f, listOf #[] 0) (by simp)
    · exact hne _ (by simp)
    · exact hne _ (by simp)
    · exact hne _ (by simp)
    · exact hne p (by simp [hp])
  have hlE := hE.length
  have hl4 : es.length ≤ 4 := by omega
  have hlen9 : (refs es).length ≤ 300 := by rw [refs_length]; omega
  conv in execs _ _ => arg 1; whnf
  refine wpAny_execs_cons ?_
  generalize hrest : execs (_ :: _) _ = rest
  k_steps
  dsimp only
  subst hrest
  k_steps
  · unfold Stop
    (rename Fr _ _ _ _ => F1)
    (rename News _ _ _ _ => N1)
    k_dflt (refine' appendQ (q := [(_, _)]) F1 N1 ?_ ?_ ?_ ?_)
    · intro z hz; rw [List.mem_singleton.mp hz]; exact News.apart N1 (.head _) (.tail _ (.head _)) (fun q => by have q := congrArg Obj.cls q; injection q with q; exact absurd q (by decide))
    · exact hne9
    · exact hlen9
    intro h7 n7 F7 N7
    clear F1 N1
    k_steps
    · exfalso
      rename List.any _ _ = true => hy
      rename Int.fmod _ _ = _ => hw
      rw [hw] at hy
      exact absurd hy (by decide)
    · (rename Fr _ _ _ _ => F9)
      (rename News _ _ _ _ => N9)
      rename List.any _ _ = false => hy
      have N10 := fin_append N9
      dsimp only
      refine hQ _ _ _ _ e _ _ _ _ (ents_snoc hE (.cons _ _ (.cons _ _ .nil)) (by decide)) ?_ ?_ F9 N10
      · rw [List.length_append]
        simp
        omega
      · rw [hy]; exact okPal_snoc_bad (by rintro ⟨q | q, _⟩ <;> exact absurd q (by decide))
  · unfold Stop
    (rename Fr _ _ _ _ => F1)
    (rename News _ _ _ _ => N1)
    k_dflt (refine' appendQ (q := [(_, _)]) F1 N1 ?_ ?_ ?_ ?_)
    · intro z hz; rw [List.mem_singleton.mp hz]; exact News.apart N1 (.head _) (.tail _ (.head _)) (fun q => by have q := congrArg Obj.cls q; injection q with q; exact absurd q (by decide))
    · exact hne9
    · exact hlen9
    intro h7 n7 F7 N7
    clear F1 N1
    k_steps
    · exfalso
      rename List.any _ _ = true => hy
      rename Int.fmod _ _ = _ => hw
      rw [hw] at hy
      exact absurd hy (by decide)
    · (rename Fr _ _ _ _ => F9)
      (rename News _ _ _ _ => N9)
      rename List.any _ _ = false => hy
      have N10 := fin_append N9
      dsimp only
      refine hQ _ _ _ _ e _ _ _ _ (ents_snoc hE (.cons _ _ (.cons _ _ (.cons _ _ (.cons _ _ (.cons _ _ (.nil)))))) (by decide)) ?_ ?_ F9 N10
      · rw [List.length_append]
        simp
        omega
      · rw [hy]; exact okPal_snoc_bad (by rintro ⟨q | q, _⟩ <;> exact absurd q (by decide))
  · unfold Stop
    (rename Fr _ _ _ _ => F1)
    (rename News _ _ _ _ => N1)
    k_dflt (refine' add_lists F1 N1 ⟨_, (N1.get (a := e) (.tail _ (.tail _ (.tail _ (.head _))))), rfl, _, rfl⟩ ⟨_, (N1 _ (.head _)).1, rfl, _, rfl⟩ ?_ ?_)
    rotate_left
    · rw [refs_length]
      have : 1024 ≤ sizeLine := by decide
      show es.length + 2 ≤ sizeLine
      omega
    intro h7 F7 N7
    clear F1 N1
    k_steps
    · exfalso
      rename List.any _ _ = true => hy
      rename Int.fmod _ _ = _ => hw
      rw [hw] at hy
      exact absurd hy (by decide)
    · (rename Fr _ _ _ _ => F9)
      (rename News _ _ _ _ => N9)
      rename List.any _ _ = false => hy
      have N10 := fin_add N9
      dsimp only
      refine hQ _ _ _ _ _ _ (es ++ [(_, tupOf _), (_, tupOf _)]) (P ++ [[1, 2, 3], [1, 2, 3, 4]]) _ ?_ ?_ ?_ F9 N10
      · exact ents_snoc2 hE (.cons _ _ (.cons _ _ (.cons _ _ .nil))) (by decide) (.cons _ _ (.cons _ _ (.cons _ _ (.cons _ _ .nil)))) (by decide)
      · rw [List.length_append]
        simp
        omega
      · rw [hy]; exact okPal_late _ _ rfl rfl P
  · unfold Stop
    (rename Fr _ _ _ _ => F1)
    (rename News _ _ _ _ => N1)
    k_dflt (refine' slice_list F1 N1 ⟨_, (N1.get (a := e) (.tail _ (.tail _ (.head _)))), rfl, _, rfl⟩ (.int _ _) .none ?_ ?hs ?ht ?hsz)
    case hs => with_unfolding_all rfl
    case ht => (intro _; with_unfolding_all rfl)
    case hsz =>
      rw [List.size_toArray, refs_length]
      have : 1024 ≤ sizeLine := by decide
      omega
    intro h7 F7 N7
    clear F1 N1
    k_steps
    unfold Stop
    (rename Fr _ _ _ _ => F8)
    (rename News _ _ _ _ => N8)
    have hb4 : b4 = ((b4.toNat : Nat) : Int) := by omega
    have hsp : slicePick (refs es).toArray (some b4) none none = ((refs es).drop b4.toNat).toArray := by
      have := slicePick_from' (refs es).toArray b4.toNat
      rw [← hb4] at this
      exact this
    rw [hsp] at N8
    k_dflt (refine' add_lists F8 N8 ⟨_, (N8 _ (.tail _ (.head _))).1, rfl, _, rfl⟩ ⟨_, (N8 _ (.head _)).1, rfl, _, rfl⟩ ?_ ?_)
    rotate_left
    · rw [List.length_drop, refs_length]
      have : 1024 ≤ sizeLine := by decide
      show 1 + (es.length - b4.toNat) ≤ sizeLine
      omega
    intro h6 F6 N6
    clear F8 N8
    k_steps
    · exfalso
      rename List.any _ _ = true => hy
      rename Int.fmod _ _ = _ => hw
      rw [hw] at hy
      exact absurd hy (by decide)
    · (rename Fr _ _ _ _ => F9)
      (rename News _ _ _ _ => N9)
      rename List.any _ _ = false => hy
      have N10 := fin_slice N9
      dsimp only
      refine hQ _ _ _ _ _ _ ((_, tupOf _) :: es.drop b4.toNat) ([0, 256, 0] :: P.drop b4.toNat) _ ?_ ?_ ?_ F9 N10
      · exact .cons _ (.cons _ _ (.cons _ _ (.cons _ _ .nil))) (by decide) (hE.drop _)
      · rw [List.length_cons, List.length_drop]
        omega
      · rw [hy]; exact okPal_bad (i := 0) rfl (by rintro ⟨_, q⟩; have := q 256 (.tail _ (.head _)); omega)
  · unfold Stop
    (rename Fr _ _ _ _ => F1)
    (rename News _ _ _ _ => N1)
    k_dflt (refine' appendQ (q := [(_, _)]) F1 N1 ?_ ?_ ?_ ?_)
    · intro z hz; rw [List.mem_singleton.mp hz]; exact News.apart N1 (.head _) (.tail _ (.head _)) (fun q => by have q := congrArg Obj.cls q; injection q with q; exact absurd q (by decide))
    · exact hne9
    · exact hlen9
    intro h7 n7 F7 N7
    clear F1 N1
    k_steps
    · exfalso
      rename List.any _ _ = true => hy
      rename Int.fmod _ _ = _ => hw
      rw [hw] at hy
      exact absurd hy (by decide)
    · (rename Fr _ _ _ _ => F9)
      (rename News _ _ _ _ => N9)
      rename List.any _ _ = false => hy
      have N10 := fin_append N9
      dsimp only
      refine hQ _ _ _ _ e _ _ _ _ (ents_snoc hE (.cons _ _ (.cons _ _ (.cons _ _ (.nil)))) (by decide)) ?_ ?_ F9 N10
      · rw [List.length_append]
        simp
        omega
      · rw [hy]; exact okPal_snoc_bad (by rintro ⟨_, q⟩; have := q (-1) (.tail _ (.head _)); omega)
  · unfold Stop
    (rename Fr _ _ _ _ => F1)
    k_dflt (refine' assignU (fun _ _ => True) F1 ?hsw ?hL ?hy ?hp ?hA ?hclos ?hcell ?hkind ?hnames ?hx ?_ ?hs)
    case hsw => with_unfolding_all rfl
    case hL => rfl
    case hy => rfl
    case hp => rfl
    case hA => exact rfl
    case hclos => first | exact closureFor_none (by decide) | exact rfl
    case hcell => decide
    case hkind => exact rfl
    case hnames => decide
    case hx => exact rfl
    case hs => (intro _; exact rfl)
    k_steps
    (rename Fr _ _ _ _ => F3)
    (rename News _ _ _ _ => N3)
    rename IsRange _ _ _ _ _ _ _ _ => hr
    refine ⟨_, 257, _, _, _, _, rfl, hr, by decide, F3, N3, ?_, ?_⟩
    · intro i tj ys C D oC es2 own2 k h tk E' mC hi2 F4 N4 hNs hm hCD
      clear F3 N3
      dsimp only
      k_steps
      (rename Fr _ _ _ _ => F9)
      (rename News _ _ _ _ => N9)
      (rename _ < _ ∧ _ => l9)
      exact ⟨_, _, _, _, _, rfl, .cons _ _ (.cons _ _ (.cons _ _ .nil)), Nat.le_of_ble_eq_true rfl, trivial, rfl, F9, l9.1, N9⟩
    · intro D kd h5 tk5 es2 P2 F5 N5 hnD hE2 hl2 _
      clear F3 N3
      dsimp only
      k_steps
      · exfalso
        rename List.any _ _ = true => hy
        rename Int.fmod _ _ = _ => hw
        rw [hw] at hy
        exact absurd hy (by decide)
      · (rename Fr _ _ _ _ => F9)
        (rename News _ _ _ _ => N9)
        rename List.any _ _ = false => hy
        have N10 := fin_comp N9
        dsimp only
        refine hQ _ _ _ _ D _ es2 P2 _ hE2 ?_ ?_ F9 N10
        · rw [hE2.length, hl2]; decide
        · rw [hy]; exact okPal_long hl2
  · unfold Stop
    (rename Fr _ _ _ _ => F1)
    (rename News _ _ _ _ => N1)
    k_dflt (refine' ne_empty (N1.get (a := e) (.tail _ (.tail _ (.head _)))) (N1 _ (.head _)).1 ?_ ?_)
    · first | exact (by decide : 8 < cLine) | exact (by decide : 10 < cLine) | exact (by decide : 11 < cLine)
    k_steps
    (rename Fr _ _ _ _ => F9)
    (rename News _ _ _ _ => N9)
    dsimp only
    refine hQ _ _ _ _ e _ es P _ hE (by omega) ?_ F9 (fin_same N9)
    rw [okPal_shape (by omega) hrow, hlE]
  · exfalso
    rename List.any _ _ = false => hy
    have h0 := Int.fmod_nonneg_of_pos a2 (b := 9) (by decide)
    have h9 := Int.fmod_lt_of_pos a2 (b := 9) (by decide)
    have e2 : [a0, a1, a2, a3, a4, a5, a6, a7, a8].getD (Int.toNat 2) 0 = a2 := rfl
    simp only [e2] at *
    generalize a2.fmod 9 = X at *
    simp only [List.any_cons, List.any_nil, Bool.or_false, Bool.or_eq_false_iff, beq_eq_false_iff_ne, ne_eq] at hy
    omega
end Mine
end
section
open PySem PySem.W PySem.Calls PyProof.Rows
set_option Elab.async false
set_option maxRecDepth 100000
set_option maxHeartbeats 4000000
namespace Mine
theorem wpAny_execs_app {prog : Program} {w : World} {A : Around} {E : Value → Shared → Prop} {s : Shared} {env : Env} {l rest : List Stmt} {Q : Flow → Shared → Prop} (h : wpAny (model prog w) A (execs l env) (fun f s' => match f with | .next => wpAny (model prog w) A (execs rest env) Q E s' | f => Q f s') E s) :
    wpAny (model prog w) A (execs (l ++ rest) env) Q E s := by
  rw [execs_app]
  refine wpAny_bind (wpAny_mono h (fun f s' h' => ?_) fun _ _ e => e)
  cases f <;> first | exact h' | exact wpAny_pure h'
theorem two_of {m : Str → Option Value} {k1 k2 : Str} {v1 v2 : Value} {h₀ h : Heap} {L : Addr} (F : Fr h₀ L h m) (h1 : m k1 = some v1) (h2 : m k2 = some v2) : Fr h₀ L h (fun y => if y = k1 then some v1 else if y = k2 then some v2 else m y) := by
  rw [← two_known h1 h2]; exact F
set_option pp.deepTerms false in
theorem lpal : ∀ (w : World) (mean : ExcName → Option Value) (mg mb : Str → Option Value) (L a : Addr) (ccd : Value) (h₀ : Heap) (m : Str → Option Value) (s : Shared) (Q : Value → Shared → Prop) (E : Value → Shared → Prop) (f : Addr) (a0 a1 a2 a3 a4 a5 a6 a7 a8 : Int) (n : Nat) (t0 t1 t2 t3 t4 t5 t6 t7 t8 : Tok) (x1 x2 x3 : Addr × Obj) (d1 d2 d3 : Option Value)
  (_ : Below callerA h₀ [] h₀) (_ : Fr h₀ L s.heap m) (_ : (hd.heap_39 w.params).In h₀) (_ : News h₀ L s.heap [(f, listOf [Value.int a0 t0, Value.int a1 t1, Value.int a2 t2, Value.int a3 t3, Value.int a4 t4, Value.int a5 t5, Value.int a6 t6, Value.int a7 t7, Value.int a8 t8].toArray n), x1, x2, x3]) (_ : Top hd.view_39 (looseW hd.view_39 []) mean mg mb h₀)
  (_ : x1.2.data = .cell d1) (_ : x2.2.data = .cell d2) (_ : x3.2.data = .cell d3)
  (_ : ∀ (h' : Heap) (tk' : Tok) (D e : Addr) (n2 : Nat) (es : List (Addr × Obj)) (P : List (List Int)) (fine : Bool), Ents es P → es.length ≤ 260 → okPal P = fine → Fr h₀ L h' m →
      News h₀ L h' ((D, ({ cls := .type "tuple", data := .seq [Value.ref e, Value.bool fine].toArray } : Obj)) :: (e, listOf (refs es).toArray n2) :: (f, listOf [Value.int a0 t0, Value.int a1 t1, Value.int a2 t2, Value.int a3 t3, Value.int a4 t4, Value.int a5 t5, Value.int a6 t6, Value.int a7 t7, Value.int a8 t8].toArray n) :: x1 :: x2 :: x3 :: es) → Q (.ref D) { s with heap := h', toks := tk' }),
  wpAny (model Challenge.rw_ax6025_01.row.prog w) (callerA.deeper (lawEnv L a ccd)) (call (.ref 91) [.ref f]) Q E s := by
  w_on
  k_fill
  intros
  rename_i w mean mg mb L a ccd h₀ m s Q E f a0 a1 a2 a3 a4 a5 a6 a7 a8 n t0 t1 t2 t3 t4 t5 t6 t7 t8 x1 x2 x3 d1 d2 d3 B F X N T dx1 dx2 dx3 hQ
  refine wpAny_call ?_
  k_enter
  refine wpAny_execs_cons ?_
  generalize hrest : execs (_ :: _) _ = rest
  k_steps
  dsimp only
  subst hrest
  refine wpAny_execs_cons ?_
  generalize hrest : execs (_ :: _) _ = rest
  k_steps
  dsimp only
  subst hrest
  rename_i g9 L9 hh1 tk9 FG9 B9 X9 T9 l9 o9 oo9 d9 dd9 ta tb D9 hh2 l10 hh3 hh4 hh5 e9 hh6 l11 hh7 F9 N9
  have dk : o9.data = .cell none := d9
  have df : oo9.data = .cell (some (.ref f)) := dd9
  clear d9 dd9
  have G9 := fr_three F9 (k1 := Str.ofString "entries") (k2 := Str.ofString "three") (k3 := Str.ofString "four") (v1 := .ref _) (v2 := .int _ _) (v3 := .int _ _) rfl rfl rfl
  have hb0 : 0 ≤ a0.fmod 3 := Int.fmod_nonneg_of_pos a0 (by decide)
  have hb1 : a0.fmod 3 < 3 := Int.fmod_lt_of_pos a0 (by decide)
  have hc0 : 0 ≤ a1.fmod 3 := Int.fmod_nonneg_of_pos a1 (by decide)
  have hc1 : a1.fmod 3 < 3 := Int.fmod_lt_of_pos a1 (by decide)
  have M9 := News.sub N9 (.cons_cons _ (.cons _ (.refl _)))
  clear F9 N9
  show wpAny _ _ (execs ((palStmts 2).take 1 ++ palStmts 3) (palEnv L9 91 (.ref 90))) _ _ _
  refine wpAny_execs_app ?_
  refine palLoop w mean mg mb L a ccd L9 91 (.ref 90) g9 _ _ _ _ e9 f (a0.fmod 3) (a1.fmod 3) _ _ a0 a1 a2 a3 a4 a5 a6 a7 a8 n t0 t1 t2 t3 t4 t5 t6 t7 t8 x1 x2 x3 o9 oo9 d1 d2 d3 G9 X9 M9 T9 dk df dx1 dx2 dx3 hb0 (by omega) hc0 (by omega) ?low l11.2.1 ?po ?_
  case low =>
    intro p hp
    simp only [List.mem_cons, List.not_mem_nil, or_false] at hp
    rcases hp with rfl | rfl | rfl | rfl
    · exact l9.1
    · exact l9.2.1
    · exact l9.2.2.1
    · exact l9.2.2.2
  case po => passes_own
  intro h5 tk5 m5 ok5 nn5 v5 es P e1 e2 F5 dk5 hE hPl hne hrow N5
  have F6 := two_of F5 e1 e2
  dsimp only
  refine palTail w mean mg mb L a ccd L9 91 (.ref 90) g9 _ _ _ _ e9 f (a0.fmod 3) (a1.fmod 3) _ a0 a1 a2 a3 a4 a5 a6 a7 a8 n nn5 t0 t1 t2 t3 t4 t5 t6 t7 t8 x1 x2 x3 ok5 oo9 v5 es P F6 X9 N5 T9 dk5 df hb0 (by omega) hc0 (by omega) ?ne hE hPl hrow ?_
  case ne =>
    intro p hp
    simp only [List.mem_cons] at hp
    rcases hp with rfl | rfl | rfl | rfl | rfl | rfl | hp
    · exact Nat.ne_of_lt l11.2.1
    · exact Nat.ne_of_lt l11.2.2.1
    · exact Nat.ne_of_lt l11.2.2.2.1
    · exact Nat.ne_of_lt l11.2.2.2.2.1
    · exact Nat.ne_of_lt l11.2.2.2.2.2.1
    · exact Nat.ne_of_lt l11.2.2.2.2.2.2
    · exact hne p hp
  intro h7 tk7 m7 D7 e7 n7 es7 P7 fine7 hE7 hl7 hok7 F7 N7
  dsimp only
  k_steps
  (rename Fr _ _ _ _ => F8)
  (rename News _ _ _ _ => N8)
  exact hQ _ _ D7 e7 n7 es7 P7 fine7 hE7 hl7 hok7 F8 N8
end Mine
end
section
open PySem PySem.W PySem.Calls PyProof.Rows
set_option Elab.async false
set_option maxRecDepth 100000
set_option maxHeartbeats 2000000
namespace Mine
/-- a list or a tuple of these -/
def AsSeq (o : Obj) (vs : List Value) : Prop := (∃ n, o = listOf vs.toArray n) ∨ o = { cls := .type "tuple", data := .seq vs.toArray }
section
variable {prog : Program} {w : World} {A : Around} {E : Value → Shared → Prop} {s : Shared} {h₀ : Heap} {L : Addr} {m : Str → Option Value} {news : List (Addr × Obj)}
theorem list_copyE {l : Addr} {o : Obj} {vs : List Value} {Q : Value → Shared → Prop} (F : Fr h₀ L s.heap m) (N : News h₀ L s.heap news) (ho : s.heap.get? l = some o) (hs : AsSeq o vs)
    (h : ∀ D c h', Fr h₀ L h' m → News h₀ L h' ((D, listOf vs.toArray c) :: news) → (∀ q ∈ news, q.1 < D) → Q (.ref D) { s with heap := h' }) (hsz : vs.toArray.size ≤ sizeLine) :
    wpAny (model prog w) A (call (.type "list") [.ref l]) Q E s := by
  rcases hs with ⟨n, rfl⟩ | rfl
  · exact list_copyK F N ⟨_, ho, rfl, _, rfl⟩ h hsz
  · exact list_copyKT F N ⟨_, ho, rfl, _, rfl⟩ h hsz
end
local macro_rules | `(tactic| walk_at "call ref") => `(tactic| (k_here; kts_any; k_dflt (refine wpAny_call ?_; (refine' enterTry ?k1 ?k2 ?k3 ?k4 ?k5 ?kA ?kF ?kE ?k6 ?k7 ?k8 ?k9 ?kB ?_ ?c2 ?c3 ?c4 ?c5; (case kA => exact rfl); (case kF => exact rfl); (case kE => exact rfl); (case k2 => k_asm); (case k1 => k_asm); (case k3 => k_asm); (case k4 => k_asm); (case k5 => k_asm); (case k6 => k_is); (case k7 => k_is); (case k8 => k_room); (case k9 => first | exact binds_K (by k_in) rfl (by k_is) rfl rfl rfl | exact BindsTo.of_eq rfl | fail "no rule for these arguments"); (case kB => exact locs rfl); (case c2 => exact rfl); (case c3 => exact rfl); (case c4 => exact rfl); (case c5 => decide); k_whole; intro g' L' h' FG' F' N' B' X' T' D'; (try dsimp only); (try k_lift B'); (try k_fold)))))
theorem and_keepp0 {a b : Prop} (ha : a) (hb : a → b) : a ∧ b := ⟨ha, hb ha⟩
local macro_rules | `(tactic| walk_at "And") => `(tactic| ((with_reducible show PySem.Str.length (_ ++ _) ≤ sizeLine ∧ _); refine and_keepp0 ?a ?_; (case a => size_fits); intro hSz'))
local macro_rules | `(tactic| walk_at "joinParts") => `(tactic| ((try (with_reducible refine joinParts_nilE ?_)); (with_reducible show wpAny _ _ (joinParts _ []) _ _ _); (with_reducible refine joinParts_nil (hsz := ?hsz) ?_); (case hsz => with_reducible assumption)))
local macro_rules | `(tactic| walk_at "ite") => `(tactic| (k_here; refine ite_isFalse (by simp only [ne_eq, not_true_eq_false, decide_false]; done) ?_))
local macro_rules | `(tactic| walk_at "call type:list") => `(tactic| (k_here; (with_reducible rename News _ _ _ _ => nN); (with_reducible rename Fr _ _ _ _ => fF); (with_reducible rename AsSeq _ _ => sS); (k_dflt (refine' list_copyE fF nN (nN _ (.head _)).1 sS ?_ ?z; (case z => (rw [List.size_toArray, refs_length]; assumption)); k_whole)); intro D' c' h' F' N' l1))
local macro_rules | `(tactic| walk_at "call builtin:len") => `(tactic| (k_here; (with_reducible rename News _ _ _ _ => nN); (k_dflt (refine' len_refs (nN _ (.head _)).1 ?z ?_; (case z => assumption); k_whole))))
local macro_rules | `(tactic| walk_at "call builtin:len") => `(tactic| (k_here; (with_reducible rename News _ _ _ _ => nN); (with_reducible rename IntsAre _ _ => iI); (with_reducible rename List.length _ ≤ 5 => i5); (with_reducible rename @Membership.mem (Addr × Obj) _ _ _ _ => mM); (k_dflt (refine' len_ints (nN _ (by first | exact .tail _ ((List.mem_append_left _ (List.mem_append_left _ mM))) | exact .tail _ (.tail _ ((List.mem_append_left _ (List.mem_append_left _ mM)))) | exact .tail _ (.tail _ (.tail _ ((List.mem_append_left _ (List.mem_append_left _ mM))))) | exact .tail _ (.tail _ (.tail _ (.tail _ ((List.mem_append_left _ (List.mem_append_left _ mM)))))) | exact .tail _ (.tail _ (.tail _ (.tail _ (.tail _ ((List.mem_append_left _ (List.mem_append_left _ mM))))))))).1 iI i5 ?_; k_whole))))
local macro_rules | `(tactic| walk_at "exec For Tuple Call") => `(tactic| (k_here; refine Stop.mk ?_))
local macro_rules | `(tactic| walk_at "exec For Name Name cons nil") => `(tactic| (k_here; refine Stop.mk ?_))

set_option pp.deepTerms false in
theorem pal12 : ∀ (w : World) (mean : ExcName → Option Value) (mg mb : Str → Option Value) (L a : Addr) (ccd : Value) (h₀ : Heap) (m : Str → Option Value) (news : List (Addr × Obj)) (s : Shared) (Q : Value → Shared → Prop) (E : Value → Shared → Prop) (p : Addr) (po : Obj) (t0 : Tok) (es : List (Addr × Obj)) (P : List (List Int))
  (_ : Below callerA h₀ [] h₀) (_ : Fr h₀ L s.heap m) (_ : (hd.heap_39 w.params).In h₀) (_ : News h₀ L s.heap ((p, po) :: (es ++ news))) (_ : Top hd.view_39 (looseW hd.view_39 []) mean mg mb h₀) (_ : Ents es P) (_ : es.length ≤ sizeLine) (_ : AsSeq po (refs es))
  (_ : okPal P = true → ∀ (h' : Heap) (tk' : Tok) (q r : Addr) (k k' : Nat), Fr h₀ L h' m → News h₀ L h' ((q, listOf [Value.ref r].toArray k') :: (r, listOf (refs es).toArray k) :: (p, po) :: (es ++ news)) → Q (.ref q) { s with heap := h', toks := tk' })
  (_ : okPal P = false → ∀ (h' : Heap) (tk' : Tok), Fr h₀ L h' m → News h₀ L h' ((p, po) :: (es ++ news)) → Q .none { s with heap := h', toks := tk' }),
  wpAny (model Challenge.rw_ax6025_01.row.prog w) (callerA.deeper (lawEnv L a ccd)) (call (.ref 105) [.int 0 t0, .ref p, .none, .none]) Q E s := by
  w_on
  k_fill
  intros
  rename_i w mean mg mb L a ccd h₀ m news s Q E p po t0 es P B F X N T hE hsz hS hV hI
  k_steps
  · unfold Stop
    rename Fr _ _ _ _ => F9
    rename News _ _ _ _ => N9
    refine forEnumP (fun b : Bool => .bool b) (Str.ofString "seen_triple") (Str.ofString "p") (fun i b => okFrom false P = okFrom b (P.drop i)) false F9 N9 rfl rfl rfl rfl (by intro _; rfl) (by passes_own) ?_ rfl rfl rfl ?_ ?_
    · intro Q' hQ'
      k_steps
      exact call_enumerate_1 (N9 _ (.head _)).1 fun h' a b c d => hQ' h' _ a b d
    · intro i v t b mm h tk own hv hg F1 N1
      clear F9 N9
      obtain ⟨a, vs, ns, rfl, hmem, hns, hI9, h5⟩ := hE.get hv
      have hi9 : i < 256 := by have := (List.getElem?_eq_some_iff.mp hv).1; rw [refs_length] at this; omega
      have hi0 : (0 : Int) ≤ (i : Int) := by omega
      have hi1 : (i : Int) < 256 := by omega
      k_steps
      all_goals first
        | (exfalso; omega)
        | ((rename Fr _ _ _ _ => F9); (rename News _ _ _ _ => N9); refine hI (bad_row hg hns ?_) _ _ F9 (News.sub N9 ?_); (first | exact row_len (by assumption) | exact row_late (by assumption) (by assumption)); first | exact .refl _ | exact List.sublist_append_left _ _ | exact (List.Sublist.trans (List.sublist_append_left _ _) (List.sublist_append_left _ _)) | exact .cons _ (.refl _) | exact .cons _ (List.sublist_append_left _ _) | exact .cons _ ((List.Sublist.trans (List.sublist_append_left _ _) (List.sublist_append_left _ _))) | exact .cons _ (.cons _ (.refl _)) | exact .cons _ (.cons _ (List.sublist_append_left _ _)) | exact .cons _ (.cons _ ((List.Sublist.trans (List.sublist_append_left _ _) (List.sublist_append_left _ _)))) | exact .cons _ (.cons _ (.cons _ (.refl _))) | exact .cons _ (.cons _ (.cons _ (List.sublist_append_left _ _))) | exact .cons _ (.cons _ (.cons _ ((List.Sublist.trans (List.sublist_append_left _ _) (List.sublist_append_left _ _))))) | exact .cons _ (.cons _ (.cons _ (.cons _ (.refl _)))) | exact .cons _ (.cons _ (.cons _ (.cons _ (List.sublist_append_left _ _)))) | exact .cons _ (.cons _ (.cons _ (.cons _ ((List.Sublist.trans (List.sublist_append_left _ _) (List.sublist_append_left _ _)))))) | exact .cons _ (.cons _ (.cons _ (.cons _ (.cons _ (.refl _))))) | exact .cons _ (.cons _ (.cons _ (.cons _ (.cons _ (List.sublist_append_left _ _))))) | exact .cons _ (.cons _ (.cons _ (.cons _ (.cons _ ((List.Sublist.trans (List.sublist_append_left _ _) (List.sublist_append_left _ _))))))))
        | (unfold Stop; rename Fr _ _ _ _ => F9)
      all_goals (rename News _ _ _ _ => N9)
      all_goals (rename @Membership.mem (Addr × Obj) _ _ _ _ => hmem)
      all_goals (rename IntsAre _ _ => hI9)
      all_goals first
        | exact (any34 (by assumption) (by assumption) (by assumption)).elim
        | (refine forTupP (ax := a) (items := vs) (fun j => ∀ x ∈ ns.take j, 0 ≤ x ∧ x ≤ 255) F9 N9 (by first | exact .tail _ ((List.mem_append_left _ (List.mem_append_left _ hmem))) | exact .tail _ (.tail _ ((List.mem_append_left _ (List.mem_append_left _ hmem)))) | exact .tail _ (.tail _ (.tail _ ((List.mem_append_left _ (List.mem_append_left _ hmem))))) | exact .tail _ (.tail _ (.tail _ (.tail _ ((List.mem_append_left _ (List.mem_append_left _ hmem)))))) | exact .tail _ (.tail _ (.tail _ (.tail _ (.tail _ ((List.mem_append_left _ (List.mem_append_left _ hmem)))))))) rfl rfl rfl (by intro _; rfl) (by passes_own) ?_ (by intro x hx; simp at hx) ?_ ?_
           · intro Q' hQ'
             k_steps
             exact hQ' _
           · intro j v h2 tk2 own2 hv2 hg2 F2 N2
             clear F9 N9
             obtain ⟨n2, t2, rfl, hn2⟩ := ints_get hI9 hv2
             k_steps
             all_goals (rename Fr _ _ _ _ => F9)
             all_goals (rename News _ _ _ _ => N9)
             all_goals first
               | (exfalso; omega)
               | exact ⟨rfl, _, _, _, rfl, F9, N9, rfl, take_ok hg2 hn2 (by omega) (by omega)⟩
               | (refine hI (bad_row hg hns (row_val hn2 (by omega))) _ _ F9 (News.sub N9 ?_); first | exact .refl _ | exact List.sublist_append_left _ _ | exact (List.Sublist.trans (List.sublist_append_left _ _) (List.sublist_append_left _ _)) | exact .cons _ (.refl _) | exact .cons _ (List.sublist_append_left _ _) | exact .cons _ ((List.Sublist.trans (List.sublist_append_left _ _) (List.sublist_append_left _ _))) | exact .cons _ (.cons _ (.refl _)) | exact .cons _ (.cons _ (List.sublist_append_left _ _)) | exact .cons _ (.cons _ ((List.Sublist.trans (List.sublist_append_left _ _) (List.sublist_append_left _ _)))) | exact .cons _ (.cons _ (.cons _ (.refl _))) | exact .cons _ (.cons _ (.cons _ (List.sublist_append_left _ _))) | exact .cons _ (.cons _ (.cons _ ((List.Sublist.trans (List.sublist_append_left _ _) (List.sublist_append_left _ _))))) | exact .cons _ (.cons _ (.cons _ (.cons _ (.refl _)))) | exact .cons _ (.cons _ (.cons _ (.cons _ (List.sublist_append_left _ _)))) | exact .cons _ (.cons _ (.cons _ (.cons _ ((List.Sublist.trans (List.sublist_append_left _ _) (List.sublist_append_left _ _)))))) | exact .cons _ (.cons _ (.cons _ (.cons _ (.cons _ (.refl _))))) | exact .cons _ (.cons _ (.cons _ (.cons _ (.cons _ (List.sublist_append_left _ _))))) | exact .cons _ (.cons _ (.cons _ (.cons _ (.cons _ ((List.Sublist.trans (List.sublist_append_left _ _) (List.sublist_append_left _ _))))))))
               | fail "none"
           · intro h2 tk2 vl F2 N2 hg2
             clear F9 N9
             k_steps
             (rename Fr _ _ _ _ => F9)
             (rename News _ _ _ _ => N9)
             first
               | exact ⟨rfl, _, _, _, rfl, F9, News.sub N9 (by first | exact .refl _ | exact List.sublist_append_left _ _ | exact (List.Sublist.trans (List.sublist_append_left _ _) (List.sublist_append_left _ _)) | exact .cons _ (.refl _) | exact .cons _ (List.sublist_append_left _ _) | exact .cons _ ((List.Sublist.trans (List.sublist_append_left _ _) (List.sublist_append_left _ _))) | exact .cons _ (.cons _ (.refl _)) | exact .cons _ (.cons _ (List.sublist_append_left _ _)) | exact .cons _ (.cons _ ((List.Sublist.trans (List.sublist_append_left _ _) (List.sublist_append_left _ _)))) | exact .cons _ (.cons _ (.cons _ (.refl _))) | exact .cons _ (.cons _ (.cons _ (List.sublist_append_left _ _))) | exact .cons _ (.cons _ (.cons _ ((List.Sublist.trans (List.sublist_append_left _ _) (List.sublist_append_left _ _))))) | exact .cons _ (.cons _ (.cons _ (.cons _ (.refl _)))) | exact .cons _ (.cons _ (.cons _ (.cons _ (List.sublist_append_left _ _)))) | exact .cons _ (.cons _ (.cons _ (.cons _ ((List.Sublist.trans (List.sublist_append_left _ _) (List.sublist_append_left _ _)))))) | exact .cons _ (.cons _ (.cons _ (.cons _ (.cons _ (.refl _))))) | exact .cons _ (.cons _ (.cons _ (.cons _ (.cons _ (List.sublist_append_left _ _))))) | exact .cons _ (.cons _ (.cons _ (.cons _ (.cons _ ((List.Sublist.trans (List.sublist_append_left _ _) (List.sublist_append_left _ _)))))))), ⟨true, rfl, rfl, next3 hg hns hI9 (by assumption) hg2⟩⟩
               | exact ⟨rfl, _, _, _, rfl, F9, News.sub N9 (by first | exact .refl _ | exact List.sublist_append_left _ _ | exact (List.Sublist.trans (List.sublist_append_left _ _) (List.sublist_append_left _ _)) | exact .cons _ (.refl _) | exact .cons _ (List.sublist_append_left _ _) | exact .cons _ ((List.Sublist.trans (List.sublist_append_left _ _) (List.sublist_append_left _ _))) | exact .cons _ (.cons _ (.refl _)) | exact .cons _ (.cons _ (List.sublist_append_left _ _)) | exact .cons _ (.cons _ ((List.Sublist.trans (List.sublist_append_left _ _) (List.sublist_append_left _ _)))) | exact .cons _ (.cons _ (.cons _ (.refl _))) | exact .cons _ (.cons _ (.cons _ (List.sublist_append_left _ _))) | exact .cons _ (.cons _ (.cons _ ((List.Sublist.trans (List.sublist_append_left _ _) (List.sublist_append_left _ _))))) | exact .cons _ (.cons _ (.cons _ (.cons _ (.refl _)))) | exact .cons _ (.cons _ (.cons _ (.cons _ (List.sublist_append_left _ _)))) | exact .cons _ (.cons _ (.cons _ (.cons _ ((List.Sublist.trans (List.sublist_append_left _ _) (List.sublist_append_left _ _)))))) | exact .cons _ (.cons _ (.cons _ (.cons _ (.cons _ (.refl _))))) | exact .cons _ (.cons _ (.cons _ (.cons _ (.cons _ (List.sublist_append_left _ _))))) | exact .cons _ (.cons _ (.cons _ (.cons _ (.cons _ ((List.Sublist.trans (List.sublist_append_left _ _) (List.sublist_append_left _ _)))))))), ⟨b, rfl, rfl, next4 hg hns hI9 (by assumption) (by assumption) (by first | assumption | exact Bool.eq_false_iff.mpr (by assumption)) hg2⟩⟩
               | fail "none")
    · intro h' tk b mm F1 N1 hg
      clear F9 N9
      k_steps
      (rename Fr _ _ _ _ => F9)
      (rename News _ _ _ _ => N9)
      refine hV ?_ _ _ _ _ _ _ F9 N9
      rw [okPal_from hE (by assumption) (by assumption), hg, refs_length, hE.length, List.drop_length]; rfl
  all_goals (rename Fr _ _ _ _ => F9)
  all_goals (rename News _ _ _ _ => N9)
  all_goals (refine hI (okPal_len hE (by omega)) _ _ F9 (News.sub N9 ?_); first | exact .refl _ | exact List.sublist_append_left _ _ | exact (List.Sublist.trans (List.sublist_append_left _ _) (List.sublist_append_left _ _)) | exact .cons _ (.refl _) | exact .cons _ (List.sublist_append_left _ _) | exact .cons _ ((List.Sublist.trans (List.sublist_append_left _ _) (List.sublist_append_left _ _))) | exact .cons _ (.cons _ (.refl _)) | exact .cons _ (.cons _ (List.sublist_append_left _ _)) | exact .cons _ (.cons _ ((List.Sublist.trans (List.sublist_append_left _ _) (List.sublist_append_left _ _)))) | exact .cons _ (.cons _ (.cons _ (.refl _))) | exact .cons _ (.cons _ (.cons _ (List.sublist_append_left _ _))) | exact .cons _ (.cons _ (.cons _ ((List.Sublist.trans (List.sublist_append_left _ _) (List.sublist_append_left _ _))))) | exact .cons _ (.cons _ (.cons _ (.cons _ (.refl _)))) | exact .cons _ (.cons _ (.cons _ (.cons _ (List.sublist_append_left _ _)))) | exact .cons _ (.cons _ (.cons _ (.cons _ ((List.Sublist.trans (List.sublist_append_left _ _) (List.sublist_append_left _ _)))))) | exact .cons _ (.cons _ (.cons _ (.cons _ (.cons _ (.refl _))))) | exact .cons _ (.cons _ (.cons _ (.cons _ (.cons _ (List.sublist_append_left _ _))))) | exact .cons _ (.cons _ (.cons _ (.cons _ (.cons _ ((List.Sublist.trans (List.sublist_append_left _ _) (List.sublist_append_left _ _))))))))
theorem pal1 : ∀ (w : World) (mean : ExcName → Option Value) (mg mb : Str → Option Value) (L a : Addr) (ccd : Value) (h₀ : Heap) (m : Str → Option Value) (news : List (Addr × Obj)) (s : Shared) (Q : Value → Shared → Prop) (E : Value → Shared → Prop) (p : Addr) (n : Nat) (t0 : Tok) (es : List (Addr × Obj)) (P : List (List Int))
  (_ : Below callerA h₀ [] h₀) (_ : Fr h₀ L s.heap m) (_ : (hd.heap_39 w.params).In h₀) (_ : News h₀ L s.heap ((p, listOf (refs es).toArray n) :: (es ++ news))) (_ : Top hd.view_39 (looseW hd.view_39 []) mean mg mb h₀) (_ : Ents es P) (_ : es.length ≤ sizeLine)
  (_ : okPal P = true → ∀ (h' : Heap) (tk' : Tok) (q r : Addr) (k k' : Nat), Fr h₀ L h' m → News h₀ L h' ((q, listOf [Value.ref r].toArray k') :: (r, listOf (refs es).toArray k) :: (p, listOf (refs es).toArray n) :: (es ++ news)) → Q (.ref q) { s with heap := h', toks := tk' })
  (_ : okPal P = false → ∀ (h' : Heap) (tk' : Tok), Fr h₀ L h' m → News h₀ L h' ((p, listOf (refs es).toArray n) :: (es ++ news)) → Q .none { s with heap := h', toks := tk' }),
  wpAny (model Challenge.rw_ax6025_01.row.prog w) (callerA.deeper (lawEnv L a ccd)) (call (.ref 105) [.int 0 t0, .ref p, .none, .none]) Q E s :=
  fun w mean mg mb L a ccd h₀ m news s Q E p n t0 es P B F X N T hE hsz hV hI => pal12 w mean mg mb L a ccd h₀ m news s Q E p _ t0 es P B F X N T hE hsz (.inl ⟨n, rfl⟩) hV hI
theorem pal2 : ∀ (w : World) (mean : ExcName → Option Value) (mg mb : Str → Option Value) (L a : Addr) (ccd : Value) (h₀ : Heap) (m : Str → Option Value) (news : List (Addr × Obj)) (s : Shared) (Q : Value → Shared → Prop) (E : Value → Shared → Prop) (p : Addr) (n : Nat) (t0 : Tok) (es : List (Addr × Obj)) (P : List (List Int))
  (_ : Below callerA h₀ [] h₀) (_ : Fr h₀ L s.heap m) (_ : (hd.heap_39 w.params).In h₀) (_ : News h₀ L s.heap ((p, ({ cls := .type "tuple", data := .seq (refs es).toArray } : Obj)) :: (es ++ news))) (_ : Top hd.view_39 (looseW hd.view_39 []) mean mg mb h₀) (_ : Ents es P) (_ : es.length ≤ sizeLine)
  (_ : okPal P = true → ∀ (h' : Heap) (tk' : Tok) (q r : Addr) (k k' : Nat), Fr h₀ L h' m → News h₀ L h' ((q, listOf [Value.ref r].toArray k') :: (r, listOf (refs es).toArray k) :: (p, ({ cls := .type "tuple", data := .seq (refs es).toArray } : Obj)) :: (es ++ news)) → Q (.ref q) { s with heap := h', toks := tk' })
  (_ : okPal P = false → ∀ (h' : Heap) (tk' : Tok), Fr h₀ L h' m → News h₀ L h' ((p, ({ cls := .type "tuple", data := .seq (refs es).toArray } : Obj)) :: (es ++ news)) → Q .none { s with heap := h', toks := tk' }),
  wpAny (model Challenge.rw_ax6025_01.row.prog w) (callerA.deeper (lawEnv L a ccd)) (call (.ref 105) [.int 0 t0, .ref p, .none, .none]) Q E s :=
  fun w mean mg mb L a ccd h₀ m news s Q E p n t0 es P B F X N T hE hsz hV hI => pal12 w mean mg mb L a ccd h₀ m news s Q E p _ t0 es P B F X N T hE hsz (.inr rfl) hV hI
end Mine
end
section
open PySem PySem.W PySem.Calls PyProof.Rows
set_option Elab.async false
set_option maxRecDepth 100000
set_option maxHeartbeats 3000000
namespace Mine
local macro_rules | `(tactic| walk_at "call ref") => `(tactic| (k_here; kts_any; k_dflt (refine wpAny_call ?_; (refine' enterTry ?k1 ?k2 ?k3 ?k4 ?k5 ?kA ?kF ?kE ?k6 ?k7 ?k8 ?k9 ?kB ?_ ?c2 ?c3 ?c4 ?c5; (case kA => exact rfl); (case kF => exact rfl); (case kE => exact rfl); (case k2 => k_asm); (case k1 => k_asm); (case k3 => k_asm); (case k4 => k_asm); (case k5 => k_asm); (case k6 => k_is); (case k7 => k_is); (case k8 => k_room); (case k9 => first | exact binds_K (by k_in) rfl (by k_is) rfl rfl rfl | exact BindsTo.of_eq rfl | fail "no rule for these arguments"); (case kB => exact locs rfl); (case c2 => exact rfl); (case c3 => exact rfl); (case c4 => exact rfl); (case c5 => decide); k_whole; intro g' L' h' FG' F' N' B' X' T' D'; (try dsimp only); (try k_lift B'); (try k_fold)))))
local macro_rules | `(tactic| walk_at "call ref") => `(tactic| (k_here; (with_reducible show wpAny _ _ (call (Value.ref 105) _) _ _ _); (with_reducible rename News _ _ _ _ => nN); (with_reducible rename Fr _ _ _ _ => fF); (with_reducible rename Frag.In _ _ => xX); (with_reducible rename Top _ _ _ _ _ _ => tT); (with_reducible rename Below _ _ _ _ => bB); (with_reducible rename Ents _ _ => eE); (with_reducible rename List.length _ ≤ sizeLine => sZ); (with_reducible rename okPal _ = _ => fF9); (k_dflt (first | (refine' pal1 _ _ _ _ _ _ _ _ _ _ _ _ _ _ _ _ _ _ bB fF xX (News.perm1 nN) tT eE sZ ?hVpal1 ?hIpal1; (first | (case hIpal1 => (intro hok; rw [fF9] at hok; cases hok)) | (case' hIpal1 => (intro _ h' tk' F' N'; replace N' := News.perm0 N'))); (first | (case hVpal1 => (intro hok; rw [fF9] at hok; cases hok)) | (case' hVpal1 => (intro _ h' tk' q' r' k' k2' F' N'; replace N' := News.perm2 N')))) | (refine' pal2 _ _ _ _ _ _ _ _ _ _ _ _ _ _ 0 _ _ _ bB fF xX (News.perm1 nN) tT eE sZ ?hVpal2 ?hIpal2; (first | (case hIpal2 => (intro hok; rw [fF9] at hok; cases hok)) | (case' hIpal2 => (intro _ h' tk' F' N'; replace N' := News.perm0 N'))); (first | (case hVpal2 => (intro hok; rw [fF9] at hok; cases hok)) | (case' hVpal2 => (intro _ h' tk' q' r' k' k2' F' N'; replace N' := News.perm2 N'))))))))
local macro_rules | `(tactic| walk_at "call type:tuple") => `(tactic| (k_here; (with_reducible rename News _ _ _ _ => nN); (with_reducible rename Fr _ _ _ _ => fF); (k_dflt (refine' tuple_copy fF nN (News.get nN (by first | exact .head _ | exact .tail _ (.head _) | exact .tail _ (.tail _ (.head _)) | exact .tail _ (.tail _ (.tail _ (.head _))) | exact .tail _ (.tail _ (.tail _ (.tail _ (.head _)))) | exact .tail _ (.tail _ (.tail _ (.tail _ (.tail _ (.head _))))) | exact .tail _ (.tail _ (.tail _ (.tail _ (.tail _ (.tail _ (.head _)))))) | exact .tail _ (.tail _ (.tail _ (.tail _ (.tail _ (.tail _ (.tail _ (.head _))))))) | exact .tail _ (.tail _ (.tail _ (.tail _ (.tail _ (.tail _ (.tail _ (.tail _ (.head _)))))))) | exact .tail _ (.tail _ (.tail _ (.tail _ (.tail _ (.tail _ (.tail _ (.tail _ (.tail _ (.head _))))))))) | exact .tail _ (.tail _ (.tail _ (.tail _ (.tail _ (.tail _ (.tail _ (.tail _ (.tail _ (.tail _ (.head _)))))))))) | exact .tail _ (.tail _ (.tail _ (.tail _ (.tail _ (.tail _ (.tail _ (.tail _ (.tail _ (.tail _ (.tail _ (.head _))))))))))) | exact .tail _ (.tail _ (.tail _ (.tail _ (.tail _ (.tail _ (.tail _ (.tail _ (.tail _ (.tail _ (.tail _ (.tail _ (.head _)))))))))))))) ?z ?_; (case z => (rw [refs_length]; assumption)); k_whole)); intro D' h' F' N'))
local macro_rules | `(tactic| walk_at "call type:list") => `(tactic| (k_here; (with_reducible rename News _ _ _ _ => nN); (with_reducible rename Fr _ _ _ _ => fF); (k_dflt (first | (refine' list_copy fF nN (News.get nN (by first | exact .head _ | exact .tail _ (.head _) | exact .tail _ (.tail _ (.head _)) | exact .tail _ (.tail _ (.tail _ (.head _))) | exact .tail _ (.tail _ (.tail _ (.tail _ (.head _)))) | exact .tail _ (.tail _ (.tail _ (.tail _ (.tail _ (.head _))))) | exact .tail _ (.tail _ (.tail _ (.tail _ (.tail _ (.tail _ (.head _)))))) | exact .tail _ (.tail _ (.tail _ (.tail _ (.tail _ (.tail _ (.tail _ (.head _))))))) | exact .tail _ (.tail _ (.tail _ (.tail _ (.tail _ (.tail _ (.tail _ (.tail _ (.head _)))))))) | exact .tail _ (.tail _ (.tail _ (.tail _ (.tail _ (.tail _ (.tail _ (.tail _ (.tail _ (.head _))))))))) | exact .tail _ (.tail _ (.tail _ (.tail _ (.tail _ (.tail _ (.tail _ (.tail _ (.tail _ (.tail _ (.head _)))))))))) | exact .tail _ (.tail _ (.tail _ (.tail _ (.tail _ (.tail _ (.tail _ (.tail _ (.tail _ (.tail _ (.tail _ (.head _))))))))))) | exact .tail _ (.tail _ (.tail _ (.tail _ (.tail _ (.tail _ (.tail _ (.tail _ (.tail _ (.tail _ (.tail _ (.tail _ (.head _)))))))))))))) ?z ?_; (case z => (rw [refs_length]; assumption)); k_whole) | (refine' list_copy_t fF nN (News.get nN (by first | exact .head _ | exact .tail _ (.head _) | exact .tail _ (.tail _ (.head _)) | exact .tail _ (.tail _ (.tail _ (.head _))) | exact .tail _ (.tail _ (.tail _ (.tail _ (.head _)))) | exact .tail _ (.tail _ (.tail _ (.tail _ (.tail _ (.head _))))) | exact .tail _ (.tail _ (.tail _ (.tail _ (.tail _ (.tail _ (.head _)))))) | exact .tail _ (.tail _ (.tail _ (.tail _ (.tail _ (.tail _ (.tail _ (.head _))))))) | exact .tail _ (.tail _ (.tail _ (.tail _ (.tail _ (.tail _ (.tail _ (.tail _ (.head _)))))))) | exact .tail _ (.tail _ (.tail _ (.tail _ (.tail _ (.tail _ (.tail _ (.tail _ (.tail _ (.head _))))))))) | exact .tail _ (.tail _ (.tail _ (.tail _ (.tail _ (.tail _ (.tail _ (.tail _ (.tail _ (.tail _ (.head _)))))))))) | exact .tail _ (.tail _ (.tail _ (.tail _ (.tail _ (.tail _ (.tail _ (.tail _ (.tail _ (.tail _ (.tail _ (.head _))))))))))) | exact .tail _ (.tail _ (.tail _ (.tail _ (.tail _ (.tail _ (.tail _ (.tail _ (.tail _ (.tail _ (.tail _ (.tail _ (.head _)))))))))))))) ?z ?_; (case z => (rw [refs_length]; assumption)); k_whole))); intro D' c' h' F' N'))
local macro_rules | `(tactic| walk_at "compareOp NotEq ref ref") => `(tactic| (k_here; (with_reducible rename News _ _ _ _ => nN); (with_reducible rename Fr _ _ _ _ => fF); (k_dflt (first | (refine' ne_of_rc (ne_one (nN _ (.tail _ (.head _))).1 (nN _ (.head _)).1 (nN _ (.tail _ (.tail _ (.head _)))).1 (nN _ (.tail _ (.tail _ (.tail _ (.tail _ (.head _)))))).1 ?hu) ?_; (case hu => first | exact (by decide : 7 < cLine) | exact (by decide : 8 < cLine) | exact (by decide : 9 < cLine))) | (refine' ne_of_rc (ne_refs (nN _ (.head _)).1 (nN _ (.tail _ (.tail _ (.head _)))).1 ?hu) ?_; (case hu => first | exact (by decide : 7 < cLine) | exact (by decide : 8 < cLine) | exact (by decide : 9 < cLine))) | (refine' ne_of_rc (ne_refs (nN _ (.head _)).1 (nN _ (.tail _ (.tail _ (.tail _ (.head _))))).1 ?hu) ?_; (case hu => first | exact (by decide : 7 < cLine) | exact (by decide : 8 < cLine) | exact (by decide : 9 < cLine))) | (refine' ne_of_rc (ne_refs (nN _ (.head _)).1 (nN _ (.tail _ (.tail _ (.tail _ (.tail _ (.head _)))))).1 ?hu) ?_; (case hu => first | exact (by decide : 7 < cLine) | exact (by decide : 8 < cLine) | exact (by decide : 9 < cLine))) | (refine' ne_of_rc (ne_refs (nN _ (.head _)).1 (nN _ (.tail _ (.tail _ (.tail _ (.tail _ (.tail _ (.head _))))))).1 ?hu) ?_; (case hu => first | exact (by decide : 7 < cLine) | exact (by decide : 8 < cLine) | exact (by decide : 9 < cLine))) | (refine' ne_of_rc (ne_refs (nN _ (.head _)).1 (nN _ (.tail _ (.tail _ (.tail _ (.tail _ (.tail _ (.tail _ (.head _)))))))).1 ?hu) ?_; (case hu => first | exact (by decide : 7 < cLine) | exact (by decide : 8 < cLine) | exact (by decide : 9 < cLine))) | (refine Stop.mk ?_)))))
set_option pp.deepTerms false in
theorem st24t : ∀ (w : World) (mean : ExcName → Option Value) (mg mb : Str → Option Value) (L a : Addr) (ccd : Value) (h₀ : Heap) (m0 : Str → Option Value) (s : Shared) (Q : Flow → Shared → Prop) (E : Value → Shared → Prop) (e p : Addr) (a0 a1 a2 a3 a4 a5 a6 a7 a8 : Int) (n n2 : Nat) (t0 t1 t2 t3 t4 t5 t6 t7 t8 : Tok) (x1 x2 x3 : Addr × Obj) (es : List (Addr × Obj)) (P : List (List Int))
  (_ : Below callerA h₀ [] h₀) (_ : Fr h₀ L s.heap (fun y => if y = Str.ofString "fine" then some (.bool true) else if y = Str.ofString "entries" then some (.ref e) else if y = Str.ofString "found" then some (.ref p) else m0 y)) (_ : (hd.heap_39 w.params).In h₀)
  (_ : News h₀ L s.heap ((e, listOf (refs es).toArray n2) :: (p, listOf [Value.int a0 t0, Value.int a1 t1, Value.int a2 t2, Value.int a3 t3, Value.int a4 t4, Value.int a5 t5, Value.int a6 t6, Value.int a7 t7, Value.int a8 t8].toArray n) :: x1 :: x2 :: x3 :: es)) (_ : Top hd.view_39 (looseW hd.view_39 []) mean mg mb h₀) (_ : Ents es P) (_ : es.length ≤ sizeLine) (_ : okPal P = true)
  (_ : ∀ (h' : Heap) (tk' : Tok) (m' : Str → Option Value), m' (Str.ofString "found") = some (.ref p) → m' (Str.ofString "entries") = some (.ref e) → m' (Str.ofString "fine") = some (.bool true) → Fr h₀ L h' m' → News h₀ L h' ((e, listOf (refs es).toArray n2) :: (p, listOf [Value.int a0 t0, Value.int a1 t1, Value.int a2 t2, Value.int a3 t3, Value.int a4 t4, Value.int a5 t5, Value.int a6 t6, Value.int a7 t7, Value.int a8 t8].toArray n) :: x1 :: x2 :: x3 :: es) → Q .next { s with heap := h', toks := tk' }),
  wpAny (model Challenge.rw_ax6025_01.row.prog w) (callerA.deeper (lawEnv L a ccd)) (execs ((lawStmts 2).take 3) (lawEnv L a ccd)) Q E s := by
  w_on
  k_fill
  intros
  rename_i w mean mg mb L a ccd h₀ m0 s Q E e p a0 a1 a2 a3 a4 a5 a6 a7 a8 n n2 t0 t1 t2 t3 t4 t5 t6 t7 t8 x1 x2 x3 es P B F X N T hE hsz hf hQ
  conv in execs _ _ => arg 1; whnf
  k_steps
  all_goals (show wpAny _ _ (pure Flow.next) _ _ _)
  all_goals (refine wpAny_pure ?_)
  all_goals (rename Fr _ _ _ _ => F9)
  all_goals (rename News _ _ _ _ => N9)
  all_goals (refine hQ _ _ _ rfl rfl rfl F9 (News.sub N9 ?_))
  all_goals (first | exact .refl _ | exact .cons _ (.refl _) | exact .cons _ (.cons _ (.refl _)) | exact .cons _ (.cons _ (.cons _ (.refl _))) | exact .cons _ (.cons _ (.cons _ (.cons _ (.refl _)))) | exact .cons _ (.cons _ (.cons _ (.cons _ (.cons _ (.refl _))))) | exact .cons _ (.cons _ (.cons _ (.cons _ (.cons _ (.cons _ (.refl _)))))) | exact .cons _ (.cons _ (.cons _ (.cons _ (.cons _ (.cons _ (.cons _ (.refl _))))))) | exact .cons _ (.cons _ (.cons _ (.cons _ (.cons _ (.cons _ (.cons _ (.cons _ (.refl _)))))))))
end Mine
end
section
open PySem PySem.W PySem.Calls PyProof.Rows
set_option Elab.async false
set_option maxRecDepth 100000
set_option maxHeartbeats 3000000
namespace Mine
local macro_rules | `(tactic| walk_at "call ref") => `(tactic| (k_here; kts_any; k_dflt (refine wpAny_call ?_; (refine' enterTry ?k1 ?k2 ?k3 ?k4 ?k5 ?kA ?kF ?kE ?k6 ?k7 ?k8 ?k9 ?kB ?_ ?c2 ?c3 ?c4 ?c5; (case kA => exact rfl); (case kF => exact rfl); (case kE => exact rfl); (case k2 => k_asm); (case k1 => k_asm); (case k3 => k_asm); (case k4 => k_asm); (case k5 => k_asm); (case k6 => k_is); (case k7 => k_is); (case k8 => k_room); (case k9 => first | exact binds_K (by k_in) rfl (by k_is) rfl rfl rfl | exact BindsTo.of_eq rfl | fail "no rule for these arguments"); (case kB => exact locs rfl); (case c2 => exact rfl); (case c3 => exact rfl); (case c4 => exact rfl); (case c5 => decide); k_whole; intro g' L' h' FG' F' N' B' X' T' D'; (try dsimp only); (try k_lift B'); (try k_fold)))))
local macro_rules | `(tactic| walk_at "call ref") => `(tactic| (k_here; (with_reducible show wpAny _ _ (call (Value.ref 105) _) _ _ _); (with_reducible rename News _ _ _ _ => nN); (with_reducible rename Fr _ _ _ _ => fF); (with_reducible rename Frag.In _ _ => xX); (with_reducible rename Top _ _ _ _ _ _ => tT); (with_reducible rename Below _ _ _ _ => bB); (with_reducible rename Ents _ _ => eE); (with_reducible rename List.length _ ≤ sizeLine => sZ); (with_reducible rename okPal _ = _ => fF9); (k_dflt (first | (refine' pal1 _ _ _ _ _ _ _ _ _ _ _ _ _ _ _ _ _ _ bB fF xX (News.perm1 nN) tT eE sZ ?hVpal1 ?hIpal1; (first | (case hIpal1 => (intro hok; rw [fF9] at hok; cases hok)) | (case' hIpal1 => (intro _ h' tk' F' N'; replace N' := News.perm0 N'))); (first | (case hVpal1 => (intro hok; rw [fF9] at hok; cases hok)) | (case' hVpal1 => (intro _ h' tk' q' r' k' k2' F' N'; replace N' := News.perm2 N')))) | (refine' pal2 _ _ _ _ _ _ _ _ _ _ _ _ _ _ 0 _ _ _ bB fF xX (News.perm1 nN) tT eE sZ ?hVpal2 ?hIpal2; (first | (case hIpal2 => (intro hok; rw [fF9] at hok; cases hok)) | (case' hIpal2 => (intro _ h' tk' F' N'; replace N' := News.perm0 N'))); (first | (case hVpal2 => (intro hok; rw [fF9] at hok; cases hok)) | (case' hVpal2 => (intro _ h' tk' q' r' k' k2' F' N'; replace N' := News.perm2 N'))))))))
local macro_rules | `(tactic| walk_at "call type:tuple") => `(tactic| (k_here; (with_reducible rename News _ _ _ _ => nN); (with_reducible rename Fr _ _ _ _ => fF); (k_dflt (refine' tuple_copy fF nN (News.get nN (by first | exact .head _ | exact .tail _ (.head _) | exact .tail _ (.tail _ (.head _)) | exact .tail _ (.tail _ (.tail _ (.head _))) | exact .tail _ (.tail _ (.tail _ (.tail _ (.head _)))) | exact .tail _ (.tail _ (.tail _ (.tail _ (.tail _ (.head _))))) | exact .tail _ (.tail _ (.tail _ (.tail _ (.tail _ (.tail _ (.head _)))))) | exact .tail _ (.tail _ (.tail _ (.tail _ (.tail _ (.tail _ (.tail _ (.head _))))))) | exact .tail _ (.tail _ (.tail _ (.tail _ (.tail _ (.tail _ (.tail _ (.tail _ (.head _)))))))) | exact .tail _ (.tail _ (.tail _ (.tail _ (.tail _ (.tail _ (.tail _ (.tail _ (.tail _ (.head _))))))))) | exact .tail _ (.tail _ (.tail _ (.tail _ (.tail _ (.tail _ (.tail _ (.tail _ (.tail _ (.tail _ (.head _)))))))))) | exact .tail _ (.tail _ (.tail _ (.tail _ (.tail _ (.tail _ (.tail _ (.tail _ (.tail _ (.tail _ (.tail _ (.head _))))))))))) | exact .tail _ (.tail _ (.tail _ (.tail _ (.tail _ (.tail _ (.tail _ (.tail _ (.tail _ (.tail _ (.tail _ (.tail _ (.head _)))))))))))))) ?z ?_; (case z => (rw [refs_length]; assumption)); k_whole)); intro D' h' F' N'))
local macro_rules | `(tactic| walk_at "call type:list") => `(tactic| (k_here; (with_reducible rename News _ _ _ _ => nN); (with_reducible rename Fr _ _ _ _ => fF); (k_dflt (first | (refine' list_copy fF nN (News.get nN (by first | exact .head _ | exact .tail _ (.head _) | exact .tail _ (.tail _ (.head _)) | exact .tail _ (.tail _ (.tail _ (.head _))) | exact .tail _ (.tail _ (.tail _ (.tail _ (.head _)))) | exact .tail _ (.tail _ (.tail _ (.tail _ (.tail _ (.head _))))) | exact .tail _ (.tail _ (.tail _ (.tail _ (.tail _ (.tail _ (.head _)))))) | exact .tail _ (.tail _ (.tail _ (.tail _ (.tail _ (.tail _ (.tail _ (.head _))))))) | exact .tail _ (.tail _ (.tail _ (.tail _ (.tail _ (.tail _ (.tail _ (.tail _ (.head _)))))))) | exact .tail _ (.tail _ (.tail _ (.tail _ (.tail _ (.tail _ (.tail _ (.tail _ (.tail _ (.head _))))))))) | exact .tail _ (.tail _ (.tail _ (.tail _ (.tail _ (.tail _ (.tail _ (.tail _ (.tail _ (.tail _ (.head _)))))))))) | exact .tail _ (.tail _ (.tail _ (.tail _ (.tail _ (.tail _ (.tail _ (.tail _ (.tail _ (.tail _ (.tail _ (.head _))))))))))) | exact .tail _ (.tail _ (.tail _ (.tail _ (.tail _ (.tail _ (.tail _ (.tail _ (.tail _ (.tail _ (.tail _ (.tail _ (.head _)))))))))))))) ?z ?_; (case z => (rw [refs_length]; assumption)); k_whole) | (refine' list_copy_t fF nN (News.get nN (by first | exact .head _ | exact .tail _ (.head _) | exact .tail _ (.tail _ (.head _)) | exact .tail _ (.tail _ (.tail _ (.head _))) | exact .tail _ (.tail _ (.tail _ (.tail _ (.head _)))) | exact .tail _ (.tail _ (.tail _ (.tail _ (.tail _ (.head _))))) | exact .tail _ (.tail _ (.tail _ (.tail _ (.tail _ (.tail _ (.head _)))))) | exact .tail _ (.tail _ (.tail _ (.tail _ (.tail _ (.tail _ (.tail _ (.head _))))))) | exact .tail _ (.tail _ (.tail _ (.tail _ (.tail _ (.tail _ (.tail _ (.tail _ (.head _)))))))) | exact .tail _ (.tail _ (.tail _ (.tail _ (.tail _ (.tail _ (.tail _ (.tail _ (.tail _ (.head _))))))))) | exact .tail _ (.tail _ (.tail _ (.tail _ (.tail _ (.tail _ (.tail _ (.tail _ (.tail _ (.tail _ (.head _)))))))))) | exact .tail _ (.tail _ (.tail _ (.tail _ (.tail _ (.tail _ (.tail _ (.tail _ (.tail _ (.tail _ (.tail _ (.head _))))))))))) | exact .tail _ (.tail _ (.tail _ (.tail _ (.tail _ (.tail _ (.tail _ (.tail _ (.tail _ (.tail _ (.tail _ (.tail _ (.head _)))))))))))))) ?z ?_; (case z => (rw [refs_length]; assumption)); k_whole))); intro D' c' h' F' N'))
local macro_rules | `(tactic| walk_at "compareOp NotEq ref ref") => `(tactic| (k_here; (with_reducible rename News _ _ _ _ => nN); (with_reducible rename Fr _ _ _ _ => fF); (k_dflt (first | (refine' ne_of_rc (ne_one (nN _ (.tail _ (.head _))).1 (nN _ (.head _)).1 (nN _ (.tail _ (.tail _ (.head _)))).1 (nN _ (.tail _ (.tail _ (.tail _ (.tail _ (.head _)))))).1 ?hu) ?_; (case hu => first | exact (by decide : 7 < cLine) | exact (by decide : 8 < cLine) | exact (by decide : 9 < cLine))) | (refine' ne_of_rc (ne_refs (nN _ (.head _)).1 (nN _ (.tail _ (.tail _ (.head _)))).1 ?hu) ?_; (case hu => first | exact (by decide : 7 < cLine) | exact (by decide : 8 < cLine) | exact (by decide : 9 < cLine))) | (refine' ne_of_rc (ne_refs (nN _ (.head _)).1 (nN _ (.tail _ (.tail _ (.tail _ (.head _))))).1 ?hu) ?_; (case hu => first | exact (by decide : 7 < cLine) | exact (by decide : 8 < cLine) | exact (by decide : 9 < cLine))) | (refine' ne_of_rc (ne_refs (nN _ (.head _)).1 (nN _ (.tail _ (.tail _ (.tail _ (.tail _ (.head _)))))).1 ?hu) ?_; (case hu => first | exact (by decide : 7 < cLine) | exact (by decide : 8 < cLine) | exact (by decide : 9 < cLine))) | (refine' ne_of_rc (ne_refs (nN _ (.head _)).1 (nN _ (.tail _ (.tail _ (.tail _ (.tail _ (.tail _ (.head _))))))).1 ?hu) ?_; (case hu => first | exact (by decide : 7 < cLine) | exact (by decide : 8 < cLine) | exact (by decide : 9 < cLine))) | (refine' ne_of_rc (ne_refs (nN _ (.head _)).1 (nN _ (.tail _ (.tail _ (.tail _ (.tail _ (.tail _ (.tail _ (.head _)))))))).1 ?hu) ?_; (case hu => first | exact (by decide : 7 < cLine) | exact (by decide : 8 < cLine) | exact (by decide : 9 < cLine))) | (refine Stop.mk ?_)))))
set_option pp.deepTerms false in
theorem st24f : ∀ (w : World) (mean : ExcName → Option Value) (mg mb : Str → Option Value) (L a : Addr) (ccd : Value) (h₀ : Heap) (m0 : Str → Option Value) (s : Shared) (Q : Flow → Shared → Prop) (E : Value → Shared → Prop) (e p : Addr) (a0 a1 a2 a3 a4 a5 a6 a7 a8 : Int) (n n2 : Nat) (t0 t1 t2 t3 t4 t5 t6 t7 t8 : Tok) (x1 x2 x3 : Addr × Obj) (es : List (Addr × Obj)) (P : List (List Int))
  (_ : Below callerA h₀ [] h₀) (_ : Fr h₀ L s.heap (fun y => if y = Str.ofString "fine" then some (.bool false) else if y = Str.ofString "entries" then some (.ref e) else if y = Str.ofString "found" then some (.ref p) else m0 y)) (_ : (hd.heap_39 w.params).In h₀)
  (_ : News h₀ L s.heap ((e, listOf (refs es).toArray n2) :: (p, listOf [Value.int a0 t0, Value.int a1 t1, Value.int a2 t2, Value.int a3 t3, Value.int a4 t4, Value.int a5 t5, Value.int a6 t6, Value.int a7 t7, Value.int a8 t8].toArray n) :: x1 :: x2 :: x3 :: es)) (_ : Top hd.view_39 (looseW hd.view_39 []) mean mg mb h₀) (_ : Ents es P) (_ : es.length ≤ sizeLine) (_ : okPal P = false)
  (_ : ∀ (h' : Heap) (tk' : Tok) (m' : Str → Option Value), m' (Str.ofString "found") = some (.ref p) → m' (Str.ofString "entries") = some (.ref e) → m' (Str.ofString "fine") = some (.bool false) → Fr h₀ L h' m' → News h₀ L h' ((e, listOf (refs es).toArray n2) :: (p, listOf [Value.int a0 t0, Value.int a1 t1, Value.int a2 t2, Value.int a3 t3, Value.int a4 t4, Value.int a5 t5, Value.int a6 t6, Value.int a7 t7, Value.int a8 t8].toArray n) :: x1 :: x2 :: x3 :: es) → Q .next { s with heap := h', toks := tk' }),
  wpAny (model Challenge.rw_ax6025_01.row.prog w) (callerA.deeper (lawEnv L a ccd)) (execs ((lawStmts 2).take 3) (lawEnv L a ccd)) Q E s := by
  w_on
  k_fill
  intros
  rename_i w mean mg mb L a ccd h₀ m0 s Q E e p a0 a1 a2 a3 a4 a5 a6 a7 a8 n n2 t0 t1 t2 t3 t4 t5 t6 t7 t8 x1 x2 x3 es P B F X N T hE hsz hf hQ
  conv in execs _ _ => arg 1; whnf
  k_steps
  all_goals (show wpAny _ _ (pure Flow.next) _ _ _)
  all_goals (refine wpAny_pure ?_)
  all_goals (rename Fr _ _ _ _ => F9)
  all_goals (rename News _ _ _ _ => N9)
  all_goals (refine hQ _ _ _ rfl rfl rfl F9 (News.sub N9 ?_))
  all_goals (first | exact .refl _ | exact .cons _ (.refl _) | exact .cons _ (.cons _ (.refl _)) | exact .cons _ (.cons _ (.cons _ (.refl _))) | exact .cons _ (.cons _ (.cons _ (.cons _ (.refl _)))) | exact .cons _ (.cons _ (.cons _ (.cons _ (.cons _ (.refl _))))) | exact .cons _ (.cons _ (.cons _ (.cons _ (.cons _ (.cons _ (.refl _)))))) | exact .cons _ (.cons _ (.cons _ (.cons _ (.cons _ (.cons _ (.cons _ (.refl _))))))) | exact .cons _ (.cons _ (.cons _ (.cons _ (.cons _ (.cons _ (.cons _ (.cons _ (.refl _)))))))))
end Mine
end
section
open PySem PySem.W PySem.Calls PyProof.Rows
set_option Elab.async false
set_option maxRecDepth 100000
set_option maxHeartbeats 4000000
namespace Mine
section
variable {prog : Program} {w : World} {A : Around} {E : Value → Shared → Prop} {s : Shared} {env : Env} {h₀ : Heap} {L : Addr} {m : Str → Option Value}
/-- what a comprehension over a tuple asks, behind its iterable -/
structure TupNext (prog : Program) (w : World) (A : Around) (env : Env) (h₀ : Heap) (L : Addr) (m : Str → Option Value) (elt : Expr) (x : Str) (scope : Scope) (cl : List (Str × Addr)) (out : List Value) (Q : Value → Shared → Prop) (xv : Value) (s₁ : Shared) : Prop where
  it : ∃ (ax : Addr) (items : List Value) (news : List (Addr × Obj)), xv = .ref ax ∧ items.length ≤ sizeLine ∧ out.length = items.length ∧
      Fr h₀ L s₁.heap m ∧ News h₀ L s₁.heap news ∧ (ax, ({ cls := .type "tuple", data := .seq items.toArray } : Obj)) ∈ news ∧
      (∀ (i : Nat) v y ys C D oC own k h tk E', items[i]? = some v → out[i]? = some y → Fr h₀ L h m → News h₀ L h ((C, oC) :: (D, listOf ys k) :: (news ++ own)) → (∀ g : Heap, g.get? C = some oC → ∃ mC, g.Ns C mC ∧ mC x = some v) → C ≠ D →
        wpC (model prog w) A (eval elt (compEnvC scope cl C env)) (fun y' s₄ => y' = y ∧ ∃ h' tk', s₄ = { s₁ with heap := h', toks := tk' } ∧ Fr h₀ L h' m ∧ News h₀ L h' ((C, oC) :: (D, listOf ys k) :: (news ++ own))) E' { s₁ with heap := h, toks := tk }) ∧
      (∀ D k h' tk, Fr h₀ L h' m → News h₀ L h' ((D, listOf out.toArray k) :: news) → Q (.ref D) { s₁ with heap := h', toks := tk })
/-- a comprehension over a tuple whose elements leave nothing behind (under the caller) -/
theorem compC_tup {elt iter : Expr} {x : Str} {px : Pos} {scope : Scope} {cl : List (Str × Addr)} {pos : Pos} {Q : Value → Shared → Prop} (out : List Value)
    (hA : A.handled = none) (hclos : closureFor scope env = pure cl) (hcell : ∀ y ∈ scope.names, y.2 ≠ .cell) (hkind : scope.kind = .function)
    (hnames : ∀ y ∈ scope.names, y.2 = .local → scope.names.lookup y.1 = some .local) (hx : scope.names.lookup x = some .local)
    (h : wpAny (model prog w) A (eval iter env) (fun xv s₁ => TupNext prog w A env h₀ L m elt x scope cl out Q xv s₁) E s)
    (hs : ∀ x, foldedSetIterable iter env x = pure x := by intro _; rfl) :
    wpC (model prog w) A (eval (.ListComp elt [⟨.Name x px, iter, [], 0⟩] scope pos) env) Q E s := by
  refine compC (h₀ := h₀) (L := L) (m := m) hclos hcell hkind hnames hx (wpAny_mono h (fun xv s₁ h₁ => ?_) fun _ _ e => e) hs
  obtain ⟨ax, items, news, rfl, hsz, hlen, F, N, hmem, step, done⟩ := h₁.it
  have hax : s₁.heap.IsTuple ax items.toArray := ⟨_, (N _ hmem).1, rfl, _, rfl⟩
  have haxlt : @LT.lt Nat _ ax s₁.heap.objs.size := Heap.lt_size (N _ hmem).1
  have hLlt : @LT.lt Nat _ L s₁.heap.objs.size := F.ns.lt
  have hne : ax ≠ s₁.heap.objs.size := Nat.ne_of_lt haxlt
  refine wpAny_pyIter_tuple hax ?_
  have up : ∀ b o, s₁.heap.get? b = some o → (s₁.heap.push { cls := .type "tuple_iterator", data := .fields #[.ref ax, .int 0 0] }).get? b = some o := fun b o e => Heap.get?_push_of_some _ e
  have hit : (s₁.heap.push { cls := .type "tuple_iterator", data := .fields #[.ref ax, .int 0 0] }).get? s₁.heap.objs.size = some { cls := .type "tuple_iterator", data := .fields #[.ref ax, .int 0 0] } := Heap.get?_push_size _ rfl
  have F₂ := F.keeps up
  have N₂ := N.grown up
  refine ⟨s₁.heap.objs.size, _, _, items.toArray.size, _, _, news, fun i ys nw => nw = news ∧ ys = out.take i, rfl, Walks.tuple hA s₁.heap.objs.size ax hne items.toArray, by rw [List.size_toArray]; exact hsz, ⟨⟨_, hit, rfl, rfl⟩, hax.at fun o e => up _ _ e⟩, ?_, ?_, ?_, ?_, F₂, N₂, ⟨rfl, rfl⟩, ?_, ?_, ?_⟩
  · intro b hb
    show @LT.lt Nat _ b (s₁.heap.push _).objs.size
    rw [Heap.size_push]
    rcases List.mem_cons.mp hb with rfl | hb
    · exact Nat.lt_succ_self _
    · rw [List.mem_singleton.mp hb]; exact Nat.lt_succ_of_lt haxlt
  · intro q
    rcases List.mem_cons.mp q with q | q
    · exact Nat.ne_of_lt hLlt q
    · exact (N _ hmem).2.1 (List.mem_singleton.mp q).symm
  · intro b hb
    rw [List.mem_singleton.mp hb]
    exact Heap.get?_none_of_le (Nat.le_trans F.above (Nat.le_of_lt hLlt))
  · intro p hp q
    exact Nat.ne_of_lt (Heap.lt_size (N p hp).1) (List.mem_singleton.mp q)
  · rintro i ys nw ⟨_, rfl⟩
    rw [List.length_take]; exact Nat.min_le_left _ _
  · intro i v ys news₁ C D oC own k h tk E' hi hP hJ F₃ N₃ hC hCD hnw
    obtain ⟨rfl, rfl⟩ := hJ
    have hi' : i < out.length := by rw [hlen]; rw [List.size_toArray] at hi; exact hi
    have hy : out[i]? = some out[i] := List.getElem?_eq_getElem hi'
    refine wpC_mono (step i v out[i] (out.take i).toArray C D oC own k h tk E' (by rw [List.getElem?_toArray] at hP; exact hP) hy F₃ N₃ hC hCD) (fun y' s₄ h₄ => ?_) fun _ _ e => e
    obtain ⟨rfl, h', tk', rfl, F₄, N₄⟩ := h₄
    exact CEnd.intro news₁ F₄ N₄ (fun p hp => hp) hnw ⟨rfl, by rw [List.take_add_one, hy]; rfl⟩
  · rintro D k ys news₁ h' tk ⟨rfl, rfl⟩ F₃ N₃ hne3
    have : out.take items.toArray.size = out := by rw [List.size_toArray, ← hlen]; exact List.take_length
    rw [this] at N₃
    exact done D k h' tk F₃ N₃
end
end Mine
end
section
open PySem PySem.W PySem.Calls PyProof.Rows
set_option Elab.async false
set_option maxRecDepth 100000
set_option maxHeartbeats 4000000
namespace Mine
theorem none_int : typeLookup (.type "NoneType") "__int__" = pure none := by rw [typeLookup_type, builtinLookup_eq_fast]; kernel_rfl
theorem none_index : typeLookup (.type "NoneType") "__index__" = pure none := by rw [typeLookup_type, builtinLookup_eq_fast]; kernel_rfl
theorem none_trunc : typeLookup (.type "NoneType") "__trunc__" = pure none := by rw [typeLookup_type, builtinLookup_eq_fast]; kernel_rfl
theorem none_buffer : typeLookup (.type "NoneType") "__buffer__" = pure none := by rw [typeLookup_type, builtinLookup_eq_fast]; kernel_rfl
theorem list_int : typeLookup (.type "list") "__int__" = pure none := by rw [typeLookup_type, builtinLookup_eq_fast]; kernel_rfl
theorem list_index : typeLookup (.type "list") "__index__" = pure none := by rw [typeLookup_type, builtinLookup_eq_fast]; kernel_rfl
theorem list_trunc : typeLookup (.type "list") "__trunc__" = pure none := by rw [typeLookup_type, builtinLookup_eq_fast]; kernel_rfl
theorem list_buffer : typeLookup (.type "list") "__buffer__" = pure none := by rw [typeLookup_type, builtinLookup_eq_fast]; kernel_rfl
theorem int_new_none : Meets (Builtin.«int.__new__» ⟨[.type "int", .none], []⟩) (raisesNew "TypeError") :=
  Meets.of_wp fun prog w A R s hs => by
    obtain ⟨hp, g, d, tk, os⟩ := s
    have f1 := F.conv_sub_int
    have f2 := F.madeHere_int
    have f3 := none_int
    have f4 := none_index
    have f5 := none_trunc
    have f6 := none_buffer
    repeat (first
    | with_reducible (first
      | refine wpAny_pure ?_ | refine wpAny_bind ?_ | refine wpAny_holding ?_ | refine wpAny_standAt ?_ | refine wpAny_point ?_ | refine wpAny_rule ?_
      | refine wpAny_letGo ?_ | refine wpAny_mkInt' ?_ | refine wpAny_mkStr' ?_ | refine wpAny_fresh' ?_ | refine wpAny_alloc' ?_ | refine wpAny_attempt ?_
      | refine wpAny_throw ?_
      | refine wpAny_of_eq (by assumption) ?_ | refine wpAny_typeOf (by assumption) ?_
      | refine wpAny_specialOf_val (by assumption) (by assumption) ?_ | refine wpAny_specialOf (by assumption) (by assumption) ?_
      | refine wpAny_isInstance_val (by assumption) (by assumption) ?_ | refine wpAny_isInstance (by assumption) (by assumption) ?_
      | refine wpAny_call ?_ | refine wpAny_runValue ?_ | refine wpAny_run ?_)
    | wp_delta
    | ((with_reducible show wpAny _ _ (if _ then _ else _) _ _ _); first | (with_reducible refine wpAny_ite_false (by rfl) ?_) | (with_reducible refine wpAny_ite_true (by rfl) ?_) | (with_reducible refine wpAny_ite_false (by simp [*]; done) ?_) | (with_reducible refine wpAny_ite_true (by simp [*]; done) ?_))
    | ((with_reducible apply wpAny_load'); focus (heap_get; done))
    | ((with_reducible apply wpAny_loadPart'); focus (heap_get; done))
    | ((with_reducible apply wpAny_handled_none); focus (assumption; done))
    | with_reducible_and_instances refine wpAny_pure ?_
    | with_reducible_and_instances refine wpAny_bind ?_)
    exact wpAny_raiseErrorMade plainExc_TypeError hs.1 (fun h' tk e hx => hs.2 h' tk e hx) (by decide +kernel)
theorem int_new_list (p : Addr) (vs : Array Value) (n : Nat) : Meets (Builtin.«int.__new__» ⟨[.type "int", .ref p], []⟩) (fun A R s => s.heap.get? p = some (listOf vs n) ∧ raisesNew "TypeError" A R s) :=
  Meets.of_wp fun prog w A R s hs => by
    obtain ⟨hp, g, d, tk, os⟩ := s
    obtain ⟨hg, hs⟩ := hs
    have f1 := F.conv_sub_int
    have f2 := F.madeHere_int
    have f3 := list_int
    have f4 := list_index
    have f5 := list_trunc
    have f6 := list_buffer
    repeat (first
    | with_reducible (first
      | refine wpAny_pure ?_ | refine wpAny_bind ?_ | refine wpAny_holding ?_ | refine wpAny_standAt ?_ | refine wpAny_point ?_ | refine wpAny_rule ?_
      | refine wpAny_letGo ?_ | refine wpAny_mkInt' ?_ | refine wpAny_mkStr' ?_ | refine wpAny_fresh' ?_ | refine wpAny_alloc' ?_ | refine wpAny_attempt ?_
      | refine wpAny_throw ?_
      | refine wpAny_of_eq (by assumption) ?_ | refine wpAny_typeOf (by assumption) ?_
      | refine wpAny_specialOf_val (by assumption) (by assumption) ?_ | refine wpAny_specialOf (by assumption) (by assumption) ?_
      | refine wpAny_isInstance_val (by assumption) (by assumption) ?_ | refine wpAny_isInstance (by assumption) (by assumption) ?_
      | refine wpAny_call ?_ | refine wpAny_runValue ?_ | refine wpAny_run ?_)
    | wp_delta
    | ((with_reducible show wpAny _ _ (if _ then _ else _) _ _ _); first | (with_reducible refine wpAny_ite_false (by rfl) ?_) | (with_reducible refine wpAny_ite_true (by rfl) ?_) | (with_reducible refine wpAny_ite_false (by simp [*]; done) ?_) | (with_reducible refine wpAny_ite_true (by simp [*]; done) ?_))
    | ((with_reducible apply wpAny_load'); focus (heap_get; done))
    | ((with_reducible apply wpAny_loadPart'); focus (heap_get; done))
    | ((with_reducible apply wpAny_handled_none); focus (assumption; done))
    | with_reducible_and_instances refine wpAny_pure ?_
    | with_reducible_and_instances refine wpAny_bind ?_)
    exact wpAny_raiseErrorMade plainExc_TypeError hs.1 (fun h' tk e hx => hs.2 h' tk e hx) (by decide +kernel)
section
variable {prog : Program} {w : World} {A : Around} {E : Value → Shared → Prop} {s : Shared}
theorem call_int_none {Q : Value → Shared → Prop} (hh : A.handled = none) (hE : ∀ h' tk e, Heap.NewExc s.heap h' e "TypeError" → E (.ref e) { s with heap := h', toks := tk }) : wpAny (model prog w) A (call (.type "int") [.none]) Q E s :=
  call_int_1 int_new_none ⟨hh, hE⟩
theorem call_int_list {p : Addr} {vs : Array Value} {n : Nat} {Q : Value → Shared → Prop} (hh : A.handled = none) (hp : s.heap.get? p = some (listOf vs n)) (hE : ∀ h' tk e, Heap.NewExc s.heap h' e "TypeError" → E (.ref e) { s with heap := h', toks := tk }) :
    wpAny (model prog w) A (call (.type "int") [.ref p]) Q E s := call_int_1 (int_new_list p vs n) ⟨hp, hh, hE⟩
end
end Mine
end
section
open PySem PySem.W PySem.Calls PyProof.Rows
set_option Elab.async false
set_option maxRecDepth 100000
set_option maxHeartbeats 4000000
namespace Mine
local macro_rules | `(tactic| walk_at "call type:int") => `(tactic| (k_here; (k_dflt (refine' call_int_none ?hh ?_; (case hh => exact rfl); k_whole)); intro h' tk' e' hx'; (try dsimp only at hx'); (try dsimp only)))
local macro_rules | `(tactic| walk_at "call type:int") => `(tactic| (k_here; (with_reducible rename News _ _ _ _ => nN); (k_dflt (refine' call_int_list ?hh ?hp ?_; (case hh => exact rfl); (case hp => exact (nN _ (.head _)).1); k_whole)); intro h' tk' e' hx'; (try dsimp only at hx'); (try dsimp only)))
local macro_rules | `(tactic| walk_at "compareOp GtE bool int") => `(tactic| (k_here; (k_dflt (refine ge_bool_int ?_))))
local macro_rules | `(tactic| walk_at "noteFrame ref") => `(tactic| (k_here; (with_reducible rename Heap.NewExc _ _ _ _ => hxX); (k_dflt (refine' look_new ?lK hxX ?lF ?lN ?_ ?lk; (case lK => assumption); (case lF => assumption); (case lN => assumption); (case lk => exact rfl); k_whole)); clear hxX; intro h' G' FG'' R' U'; (try dsimp only at R' U' ⊢)))

set_option pp.deepTerms false in
theorem natNone : ∀ (w : World) (mean : ExcName → Option Value) (mg mb : Str → Option Value) (L a : Addr) (ccd : Value) (h₀ : Heap) (m : Str → Option Value) (news : List (Addr × Obj)) (s : Shared) (Q : Value → Shared → Prop) (E : Value → Shared → Prop) 
  (_ : Below callerA h₀ [] h₀) (_ : Fr h₀ L s.heap m) (_ : (hd.heap_39 w.params).In h₀) (_ : News h₀ L s.heap (news)) (_ : Top hd.view_39 (looseW hd.view_39 []) mean mg mb h₀) 
  (_ : ∀ (h' : Heap) (tk' : Tok), Fr h₀ L h' m → News h₀ L h' (news) → Q (.bool false) { s with heap := h', toks := tk' }),
  wpAny (model Challenge.rw_ax6025_01.row.prog w) (callerA.deeper (lawEnv L a ccd)) (call (.ref 81) [.none]) Q E s := by
  w_on
  k_fill
  intros
  refine wpAny_call ?_
  (refine' enterTry ?k1 ?k2 ?k3 ?k4 ?k5 ?kA ?kF ?kE ?k6 ?k7 ?k8 ?k9 ?kB ?_ ?c2 ?c3 ?c4 ?c5; (case kA => exact rfl); (case kF => exact rfl); (case kE => exact rfl); (case k2 => k_asm); (case k1 => k_asm); (case k3 => k_asm); (case k4 => k_asm); (case k5 => k_asm); (case k6 => k_is); (case k7 => k_is); (case k8 => k_room); (case k9 => first | exact binds_K (by k_in) rfl (by k_is) rfl rfl rfl | exact BindsTo.of_eq rfl | fail "no rule for these arguments"); (case kB => exact locs rfl); (case c2 => exact rfl); (case c3 => exact rfl); (case c4 => exact rfl); (case c5 => decide); k_whole; intro g' L' h' FG' F' N' B' X' T' D'; (try dsimp only); (try k_lift B'); (try k_fold))
  k_steps
  (with_reducible rename ∀ (h' : Heap) (tk' : Tok), Fr _ _ h' _ → News _ _ h' _ → _ => hQ)
  (first | exact hQ _ _ (by assumption) (by assumption) | exact hQ _ _ (by assumption) (News.drop1 (by assumption)))
end Mine
end
section
open PySem PySem.W PySem.Calls PyProof.Rows
set_option Elab.async false
set_option maxRecDepth 100000
set_option maxHeartbeats 4000000
namespace Mine
local macro_rules | `(tactic| walk_at "call type:int") => `(tactic| (k_here; (k_dflt (refine' call_int_none ?hh ?_; (case hh => exact rfl); k_whole)); intro h' tk' e' hx'; (try dsimp only at hx'); (try dsimp only)))
local macro_rules | `(tactic| walk_at "call type:int") => `(tactic| (k_here; (with_reducible rename News _ _ _ _ => nN); (k_dflt (refine' call_int_list ?hh ?hp ?_; (case hh => exact rfl); (case hp => exact (nN _ (.head _)).1); k_whole)); intro h' tk' e' hx'; (try dsimp only at hx'); (try dsimp only)))
local macro_rules | `(tactic| walk_at "compareOp GtE bool int") => `(tactic| (k_here; (k_dflt (refine ge_bool_int ?_))))
local macro_rules | `(tactic| walk_at "noteFrame ref") => `(tactic| (k_here; (with_reducible rename Heap.NewExc _ _ _ _ => hxX); (k_dflt (refine' look_new ?lK hxX ?lF ?lN ?_ ?lk; (case lK => assumption); (case lF => assumption); (case lN => assumption); (case lk => exact rfl); k_whole)); clear hxX; intro h' G' FG'' R' U'; (try dsimp only at R' U' ⊢)))

set_option pp.deepTerms false in
theorem natList : ∀ (w : World) (mean : ExcName → Option Value) (mg mb : Str → Option Value) (L a : Addr) (ccd : Value) (h₀ : Heap) (m : Str → Option Value) (news : List (Addr × Obj)) (s : Shared) (Q : Value → Shared → Prop) (E : Value → Shared → Prop) (p : Addr) (v : Value) (n : Nat)
  (_ : Below callerA h₀ [] h₀) (_ : Fr h₀ L s.heap m) (_ : (hd.heap_39 w.params).In h₀) (_ : News h₀ L s.heap ((p, listOf [v].toArray n) :: news)) (_ : Top hd.view_39 (looseW hd.view_39 []) mean mg mb h₀) 
  (_ : ∀ (h' : Heap) (tk' : Tok), Fr h₀ L h' m → News h₀ L h' ((p, listOf [v].toArray n) :: news) → Q (.bool false) { s with heap := h', toks := tk' }),
  wpAny (model Challenge.rw_ax6025_01.row.prog w) (callerA.deeper (lawEnv L a ccd)) (call (.ref 81) [.ref p]) Q E s := by
  w_on
  k_fill
  intros
  refine wpAny_call ?_
  (refine' enterTry ?k1 ?k2 ?k3 ?k4 ?k5 ?kA ?kF ?kE ?k6 ?k7 ?k8 ?k9 ?kB ?_ ?c2 ?c3 ?c4 ?c5; (case kA => exact rfl); (case kF => exact rfl); (case kE => exact rfl); (case k2 => k_asm); (case k1 => k_asm); (case k3 => k_asm); (case k4 => k_asm); (case k5 => k_asm); (case k6 => k_is); (case k7 => k_is); (case k8 => k_room); (case k9 => first | exact binds_K (by k_in) rfl (by k_is) rfl rfl rfl | exact BindsTo.of_eq rfl | fail "no rule for these arguments"); (case kB => exact locs rfl); (case c2 => exact rfl); (case c3 => exact rfl); (case c4 => exact rfl); (case c5 => decide); k_whole; intro g' L' h' FG' F' N' B' X' T' D'; (try dsimp only); (try k_lift B'); (try k_fold))
  k_steps
  (with_reducible rename ∀ (h' : Heap) (tk' : Tok), Fr _ _ h' _ → News _ _ h' _ → _ => hQ)
  (first | exact hQ _ _ (by assumption) (by assumption) | exact hQ _ _ (by assumption) (News.drop1 (by assumption)))
end Mine
end
section
open PySem PySem.W PySem.Calls PyProof.Rows
set_option Elab.async false
set_option maxRecDepth 100000
set_option maxHeartbeats 4000000
namespace Mine
local macro_rules | `(tactic| walk_at "noteFrame ref") => `(tactic| (k_here; (with_reducible rename Heap.NewExc _ _ _ _ => hxX); (k_dflt (refine' look_new ?lK hxX ?lF ?lN ?_ ?lk; (case lK => assumption); (case lF => assumption); (case lN => assumption); (case lk => exact rfl); k_whole)); clear hxX; intro h' G' FG'' R' U'; (try dsimp only at R' U' ⊢)))

set_option pp.deepTerms false in
theorem natStrC : ∀ (w : World) (mean : ExcName → Option Value) (mg mb : Str → Option Value) (L a : Addr) (ccd : Value) (h₀ : Heap) (m : Str → Option Value) (news : List (Addr × Obj)) (s : Shared) (R : Result → Shared → Prop) (t : Tok)
  (_ : Below callerA h₀ [] h₀) (_ : Fr h₀ L s.heap m) (_ : (hd.heap_39 w.params).In h₀) (_ : News h₀ L s.heap news) (_ : Top hd.view_39 (looseW hd.view_39 []) mean mg mb h₀)
  (_ : ∀ (h' : Heap) (tk' : Tok), Fr h₀ L h' m → News h₀ L h' news → R (.ok (.ret (.bool false))) { s with heap := h', toks := tk' }),
  codeC (model Challenge.rw_ax6025_01.row.prog w) (callerA.deeper (lawEnv L a ccd)) (.call (.ref 81) ⟨[.str (Str.ofString "x") t], []⟩) R s := by
  w_on
  k_fill
  intros
  (refine' enterTryC ?k1 ?k2 ?k3 ?k4 ?k5 ?kA ?kF ?kE ?k6 ?k7 ?k8 ?k9 ?kB ?_ ?c2 ?c3 ?c4 ?c5; (case kA => exact rfl); (case kF => exact rfl); (case kE => exact rfl); (case k2 => k_asm); (case k1 => k_asm); (case k3 => k_asm); (case k4 => k_asm); (case k5 => k_asm); (case k6 => k_is); (case k7 => k_is); (case k8 => k_room); (case k9 => first | exact binds_K (by k_in) rfl (by k_is) rfl rfl rfl | exact BindsTo.of_eq rfl | fail "no rule for these arguments"); (case kB => exact locs rfl); (case c2 => exact rfl); (case c3 => exact rfl); (case c4 => exact rfl); (case c5 => decide); k_whole; intro g' L' h' FG' F' N' B' X' T' D'; (try dsimp only); (try k_lift B'); (try k_fold))
  refine wpC_execs_cons ?_
  refine wpC_Try ?_
  refine wpC_execs_cons ?_
  refine wpC_Assign_Name ?_
  refine wpC_eval_Compare1 ?_
  refine wpC_Call_Name ?_
  k_steps
  refine wpC_callWith_type (x := eval (.Name (Str.ofString "x") _) _) (rest := []) rfl ?_
  refine spliced_cons ?_
  k_steps
  refine spliced_nil ?_
  refine' wpC_call (call_x ?hh ?_)
  case hh => rfl
  intro h' tk' e' hx'
  (try dsimp only at hx')
  (try dsimp only)
  k_steps
  (with_reducible rename ∀ (h' : Heap) (tk' : Tok), Fr _ _ h' _ → News _ _ h' _ → _ => hQ)
  (first | exact hQ _ _ (by assumption) (by assumption) | exact hQ _ _ (by assumption) (News.drop1 (by assumption)))
end Mine
end
section
open PySem PySem.W PySem.Calls PyProof.Rows
set_option Elab.async false
set_option maxRecDepth 100000
set_option maxHeartbeats 4000000
namespace Mine
local macro_rules | `(tactic| walk_at "call type:int") => `(tactic| (k_here; (k_dflt (refine' call_int_none ?hh ?_; (case hh => exact rfl); k_whole)); intro h' tk' e' hx'; (try dsimp only at hx'); (try dsimp only)))
local macro_rules | `(tactic| walk_at "call type:int") => `(tactic| (k_here; (with_reducible rename News _ _ _ _ => nN); (k_dflt (refine' call_int_list ?hh ?hp ?_; (case hh => exact rfl); (case hp => exact (nN _ (.head _)).1); k_whole)); intro h' tk' e' hx'; (try dsimp only at hx'); (try dsimp only)))
local macro_rules | `(tactic| walk_at "compareOp GtE bool int") => `(tactic| (k_here; (k_dflt (refine ge_bool_int ?_))))
local macro_rules | `(tactic| walk_at "noteFrame ref") => `(tactic| (k_here; (with_reducible rename Heap.NewExc _ _ _ _ => hxX); (k_dflt (refine' look_new ?lK hxX ?lF ?lN ?_ ?lk; (case lK => assumption); (case lF => assumption); (case lN => assumption); (case lk => exact rfl); k_whole)); clear hxX; intro h' G' FG'' R' U'; (try dsimp only at R' U' ⊢)))

set_option pp.deepTerms false in
theorem natTrue : ∀ (w : World) (mean : ExcName → Option Value) (mg mb : Str → Option Value) (L a : Addr) (ccd : Value) (h₀ : Heap) (m : Str → Option Value) (news : List (Addr × Obj)) (s : Shared) (Q : Value → Shared → Prop) (E : Value → Shared → Prop) 
  (_ : Below callerA h₀ [] h₀) (_ : Fr h₀ L s.heap m) (_ : (hd.heap_39 w.params).In h₀) (_ : News h₀ L s.heap (news)) (_ : Top hd.view_39 (looseW hd.view_39 []) mean mg mb h₀) 
  (_ : ∀ (h' : Heap) (tk' : Tok), Fr h₀ L h' m → News h₀ L h' (news) → Q (.bool true) { s with heap := h', toks := tk' }),
  wpAny (model Challenge.rw_ax6025_01.row.prog w) (callerA.deeper (lawEnv L a ccd)) (call (.ref 81) [.bool true]) Q E s := by
  w_on
  k_fill
  intros
  refine wpAny_call ?_
  (refine' enterTry ?k1 ?k2 ?k3 ?k4 ?k5 ?kA ?kF ?kE ?k6 ?k7 ?k8 ?k9 ?kB ?_ ?c2 ?c3 ?c4 ?c5; (case kA => exact rfl); (case kF => exact rfl); (case kE => exact rfl); (case k2 => k_asm); (case k1 => k_asm); (case k3 => k_asm); (case k4 => k_asm); (case k5 => k_asm); (case k6 => k_is); (case k7 => k_is); (case k8 => k_room); (case k9 => first | exact binds_K (by k_in) rfl (by k_is) rfl rfl rfl | exact BindsTo.of_eq rfl | fail "no rule for these arguments"); (case kB => exact locs rfl); (case c2 => exact rfl); (case c3 => exact rfl); (case c4 => exact rfl); (case c5 => decide); k_whole; intro g' L' h' FG' F' N' B' X' T' D'; (try dsimp only); (try k_lift B'); (try k_fold))
  k_steps
  (with_reducible rename ∀ (h' : Heap) (tk' : Tok), Fr _ _ h' _ → News _ _ h' _ → _ => hQ)
  (first | exact hQ _ _ (by assumption) (by assumption) | exact hQ _ _ (by assumption) (News.drop1 (by assumption)))
end Mine
end
section
open PySem PySem.W PySem.Calls PyProof.Rows
set_option Elab.async false
set_option maxRecDepth 100000
set_option maxHeartbeats 4000000
namespace Mine
local macro_rules | `(tactic| walk_at "call type:int") => `(tactic| (k_here; (k_dflt (refine' call_int_none ?hh ?_; (case hh => exact rfl); k_whole)); intro h' tk' e' hx'; (try dsimp only at hx'); (try dsimp only)))
local macro_rules | `(tactic| walk_at "call type:int") => `(tactic| (k_here; (with_reducible rename News _ _ _ _ => nN); (k_dflt (refine' call_int_list ?hh ?hp ?_; (case hh => exact rfl); (case hp => exact (nN _ (.head _)).1); k_whole)); intro h' tk' e' hx'; (try dsimp only at hx'); (try dsimp only)))
local macro_rules | `(tactic| walk_at "compareOp GtE bool int") => `(tactic| (k_here; (k_dflt (refine ge_bool_int ?_))))
local macro_rules | `(tactic| walk_at "noteFrame ref") => `(tactic| (k_here; (with_reducible rename Heap.NewExc _ _ _ _ => hxX); (k_dflt (refine' look_new ?lK hxX ?lF ?lN ?_ ?lk; (case lK => assumption); (case lF => assumption); (case lN => assumption); (case lk => exact rfl); k_whole)); clear hxX; intro h' G' FG'' R' U'; (try dsimp only at R' U' ⊢)))

set_option pp.deepTerms false in
theorem natInt : ∀ (w : World) (mean : ExcName → Option Value) (mg mb : Str → Option Value) (L a : Addr) (ccd : Value) (h₀ : Heap) (m : Str → Option Value) (news : List (Addr × Obj)) (s : Shared) (Q : Value → Shared → Prop) (E : Value → Shared → Prop) (i : Int) (t : Tok)
  (_ : Below callerA h₀ [] h₀) (_ : Fr h₀ L s.heap m) (_ : (hd.heap_39 w.params).In h₀) (_ : News h₀ L s.heap (news)) (_ : Top hd.view_39 (looseW hd.view_39 []) mean mg mb h₀) 
  (_ : ∀ (h' : Heap) (tk' : Tok), Fr h₀ L h' m → News h₀ L h' (news) → Q (.bool (decide (0 ≤ i))) { s with heap := h', toks := tk' }),
  wpAny (model Challenge.rw_ax6025_01.row.prog w) (callerA.deeper (lawEnv L a ccd)) (call (.ref 81) [.int i t]) Q E s := by
  w_on
  k_fill
  intros
  refine wpAny_call ?_
  (refine' enterTry ?k1 ?k2 ?k3 ?k4 ?k5 ?kA ?kF ?kE ?k6 ?k7 ?k8 ?k9 ?kB ?_ ?c2 ?c3 ?c4 ?c5; (case kA => exact rfl); (case kF => exact rfl); (case kE => exact rfl); (case k2 => k_asm); (case k1 => k_asm); (case k3 => k_asm); (case k4 => k_asm); (case k5 => k_asm); (case k6 => k_is); (case k7 => k_is); (case k8 => k_room); (case k9 => first | exact binds_K (by k_in) rfl (by k_is) rfl rfl rfl | exact BindsTo.of_eq rfl | fail "no rule for these arguments"); (case kB => exact locs rfl); (case c2 => exact rfl); (case c3 => exact rfl); (case c4 => exact rfl); (case c5 => decide); k_whole; intro g' L' h' FG' F' N' B' X' T' D'; (try dsimp only); (try k_lift B'); (try k_fold))
  k_steps
  (with_reducible rename ∀ (h' : Heap) (tk' : Tok), Fr _ _ h' _ → News _ _ h' _ → _ => hQ)
  · exact hQ _ _ (by assumption) (by assumption)
  · (with_reducible rename _ ≠ _ => hne)
    exact absurd rfl hne
end Mine
end
section
open PySem PySem.W PySem.Calls PyProof.Rows
set_option Elab.async false
set_option maxRecDepth 100000
set_option maxHeartbeats 4000000
namespace Mine
set_option pp.deepTerms false in
theorem stmt11 : ∀ (w : World) (mean : ExcName → Option Value) (mg mb : Str → Option Value) (L a : Addr) (ccd : Value) (h₀ : Heap) (m0 : Str → Option Value) (s : Shared) (Q : Flow → Shared → Prop) (E : Value → Shared → Prop) (p : Addr) (a0 a1 a2 a3 a4 a5 a6 a7 a8 : Int) (n : Nat) (t0 t1 t2 t3 t4 t5 t6 t7 t8 : Tok)
  (_ : Below callerA h₀ [] h₀) (_ : Fr h₀ L s.heap (fun y => if y = Str.ofString "found" then some (.ref p) else m0 y)) (_ : (hd.heap_39 w.params).In h₀) (_ : News h₀ L s.heap [(p, listOf [Value.int a0 t0, Value.int a1 t1, Value.int a2 t2, Value.int a3 t3, Value.int a4 t4, Value.int a5 t5, Value.int a6 t6, Value.int a7 t7, Value.int a8 t8].toArray n)]) (_ : Top hd.view_39 (looseW hd.view_39 []) mean mg mb h₀)
  (_ : ∀ h' tk', Fr h₀ L h' (fun y => if y = Str.ofString "found" then some (.ref p) else m0 y) → News h₀ L h' [(p, listOf [Value.int a0 t0, Value.int a1 t1, Value.int a2 t2, Value.int a3 t3, Value.int a4 t4, Value.int a5 t5, Value.int a6 t6, Value.int a7 t7, Value.int a8 t8].toArray n)] → wpAny (model Challenge.rw_ax6025_01.row.prog w) (callerA.deeper (lawEnv L a ccd)) (execs (lawStmts 12) (lawEnv L a ccd)) Q E { s with heap := h', toks := tk' }),
  wpC (model Challenge.rw_ax6025_01.row.prog w) (callerA.deeper (lawEnv L a ccd)) (execs (lawStmts 11) (lawEnv L a ccd)) Q E s := by
  w_on
  k_fill
  intros
  rename_i w mean mg mb L a ccd h₀ m0 s Q E p a0 a1 a2 a3 a4 a5 a6 a7 a8 n t0 t1 t2 t3 t4 t5 t6 t7 t8 B F X N T hQ
  conv in execs (lawStmts 11) _ => arg 1; whnf
  refine wpC_execs_cons ?_
  refine wpC_If ?_
  refine wpC_isTrue_Compare1 ?_
  refine' compC_tup (h₀ := h₀) (L := L) (m := fun y => if y = Str.ofString "found" then some (.ref p) else m0 y) [.bool true, .bool true, .bool false, .bool false, .bool false, .bool true, .bool false] rfl ?hclos ?hcell ?hkind ?hnames ?hx ?_
  case hclos => exact closureFor_none (by decide)
  case hcell => decide
  case hkind => rfl
  case hnames => decide
  case hx => rfl
  k_steps
  rename Fr _ _ _ _ => F'
  rename News _ _ _ _ => N'
  dsimp only at F' N' ⊢
  refine ⟨_, _, _, rfl, ?hsz, ?hlen, F', N', .head _, ?step, ?done⟩
  case hlen => rfl
  case hsz => exact Nat.le_of_ble_eq_true rfl
  case step =>
    intro i v y ys C D oC own k h tk E' hv hy F3 N3 hC hCD
    clear F' N' hQ
    refine wpC_Call_Name ?_
    k_steps
    obtain ⟨mC, hNs, hm⟩ := hC h (N3 _ (.head _)).1
    have hf : ∃ o fd, (h.get? 81 = some o ∧ o.data = .func fd) := ⟨⟨_, _, .func (fnOf _ _ _ _ _ _ _ _ _ _ _ _), _⟩, _, (X.keeps F3.keep) 81 _ (by k_is), rfl⟩
    obtain ⟨o, fd, hf⟩ := hf
    refine' wpC_callWith_function (o := o) (fd := fd) (evalArgs_plain (x := eval (.Name (Str.ofString "x") _) _) (rest := []) (spliced_cons (wpAny_Name (wpAny_loadName_local ?kk ?ll hNs hm (spliced_nil ⟨hf, ?next⟩)))))
    case kk => rfl
    case ll => rfl
    case next =>
      have hi : i = 0 ∨ i = 1 ∨ i = 2 ∨ i = 3 ∨ i = 4 ∨ i = 5 ∨ i = 6 ∨ 7 ≤ i := by omega
      rcases hi with rfl | rfl | rfl | rfl | rfl | rfl | rfl | hi
      · cases hv; cases hy
        exact wpC_of (natInt w mean mg mb L a ccd h₀ _ _ _ _ _ _ _ B F3 X N3 T fun h' tk' F4 N4 => ⟨by simp, h', tk', rfl, F4, N4⟩)
      · cases hv; cases hy
        exact wpC_of (natInt w mean mg mb L a ccd h₀ _ _ _ _ _ _ _ B F3 X N3 T fun h' tk' F4 N4 => ⟨by simp [Int.fmod_nonneg_of_pos], h', tk', rfl, F4, N4⟩)
      · cases hv; cases hy
        exact wpC_of (natInt w mean mg mb L a ccd h₀ _ _ _ _ _ _ _ B F3 X N3 T fun h' tk' F4 N4 => ⟨by decide, h', tk', rfl, F4, N4⟩)
      · cases hv; cases hy
        exact wpC_of (natNone w mean mg mb L a ccd h₀ _ _ _ _ _ B F3 X N3 T fun h' tk' F4 N4 => ⟨rfl, h', tk', rfl, F4, N4⟩)
      · cases hv; cases hy
        exact wpC_call (natStrC w mean mg mb L a ccd h₀ _ _ _ _ _ B F3 X N3 T fun h' tk' F4 N4 => ⟨rfl, h', tk', rfl, F4, N4⟩)
      · cases hv; cases hy
        exact wpC_of (natTrue w mean mg mb L a ccd h₀ _ _ _ _ _ B F3 X N3 T fun h' tk' F4 N4 => ⟨rfl, h', tk', rfl, F4, N4⟩)
      · cases hv; cases hy
        refine wpC_of (natList w mean mg mb L a ccd h₀ _ _ _ _ _ _ _ _ B F3 X (fun q hq => (List.mem_cons.mp hq).elim (fun e => N3 q (e ▸ .tail _ (.tail _ (.tail _ (.head _))))) (N3 q)) T fun h' tk' F4 N4 => ⟨rfl, h', tk', rfl, F4, News.drop1 N4⟩)
      · exfalso
        obtain ⟨j, rfl⟩ := Nat.exists_eq_add_of_le hi
        rw [Nat.add_comm] at hy
        cases hy
  case done =>
    intro D k h' tk F3 N3
    clear F' N'
    k_steps
    rename Fr _ _ _ _ => F9
    rename News _ _ _ _ => N9
    show wpC _ _ (pure Flow.next) _ _ _
    refine wpC_pure (wpC_of (hQ _ _ F9 fun q hq => N9 q ?_))
    rw [List.mem_singleton.mp hq]
    simp
end Mine
end
section
open PySem PySem.W PySem.Calls PyProof.Rows
set_option Elab.async false
set_option maxRecDepth 100000
set_option maxHeartbeats 8000000
namespace Mine
local macro_rules | `(tactic| walk_at "call ref") => `(tactic| (k_here; kts_any; k_dflt (refine wpAny_call ?_; (refine' enterTry ?k1 ?k2 ?k3 ?k4 ?k5 ?kA ?kF ?kE ?k6 ?k7 ?k8 ?k9 ?kB ?_ ?c2 ?c3 ?c4 ?c5; (case kA => exact rfl); (case kF => exact rfl); (case kE => exact rfl); (case k2 => k_asm); (case k1 => k_asm); (case k3 => k_asm); (case k4 => k_asm); (case k5 => k_asm); (case k6 => k_is); (case k7 => k_is); (case k8 => k_room); (case k9 => first | exact binds_K (by k_in) rfl (by k_is) rfl rfl rfl | exact BindsTo.of_eq rfl | fail "no rule for these arguments"); (case kB => exact locs rfl); (case c2 => exact rfl); (case c3 => exact rfl); (case c4 => exact rfl); (case c5 => decide); k_whole; intro g' L' h' FG' F' N' B' X' T' D'; (try dsimp only); (try k_lift B'); (try k_fold)))))
theorem and_keepSz1 {a b : Prop} (ha : a) (hb : a → b) : a ∧ b := ⟨ha, hb ha⟩
local macro_rules | `(tactic| walk_at "And") => `(tactic| ((with_reducible show PySem.Str.length (_ ++ _) ≤ sizeLine ∧ _); refine and_keepSz1 ?a ?_; (case a => size_fits); intro hSz'))
local macro_rules | `(tactic| walk_at "joinParts") => `(tactic| ((try (with_reducible refine joinParts_nilE ?_)); (with_reducible show wpAny _ _ (joinParts _ []) _ _ _); (with_reducible refine joinParts_nil (hsz := ?hsz) ?_); (case hsz => with_reducible assumption)))
local macro_rules | `(tactic| walk_at "ite") => `(tactic| (k_here; refine ite_isFalse (by simp only [ne_eq, not_true_eq_false, decide_false]; done) ?_))

set_option pp.deepTerms false in
theorem sz1 : ∀ (w : World) (mean : ExcName → Option Value) (mg mb : Str → Option Value) (L a : Addr) (ccd : Value) (h₀ : Heap) (m : Str → Option Value) (news : List (Addr × Obj)) (s : Shared) (Q : Value → Shared → Prop) (E : Value → Shared → Prop) (p : Addr) (x y z : Int) (t0 tx ty tx2 ty2 tz : Tok)
  (_ : Below callerA h₀ [] h₀) (_ : Fr h₀ L s.heap m) (_ : (hd.heap_39 w.params).In h₀) (_ : News h₀ L s.heap ((p, ({ cls := .type "tuple", data := .seq [Value.int x tx, Value.int y ty].toArray } : Obj)) :: news)) (_ : Top hd.view_39 (looseW hd.view_39 []) mean mg mb h₀) (_ : 0 ≤ x) (_ : 0 ≤ y) (_ : x < 9) (_ : y < 9)
  (_ : ∀ (h' : Heap) (tk' : Tok) (q : Addr) (n : Nat), Fr h₀ L h' m → News h₀ L h' ((q, listOf [Value.ref p].toArray n) :: (p, ({ cls := .type "tuple", data := .seq [Value.int x tx, Value.int y ty].toArray } : Obj)) :: news) → Q (.ref q) { s with heap := h', toks := tk' }),
  wpAny (model Challenge.rw_ax6025_01.row.prog w) (callerA.deeper (lawEnv L a ccd)) (call (.ref 105) [.int 2 t0, .ref p, .int x tx2, .int y ty2]) Q E s := by
  w_on
  k_fill
  intros
  k_steps
  all_goals try (exfalso; omega)
  (with_reducible rename ∀ (h' : Heap) (tk' : Tok) (q : Addr) (n : Nat), _ → _ → _ => hQ)
  exact hQ _ _ _ _ (by assumption) (by assumption)

end Mine
end
section
open PySem PySem.W PySem.Calls PyProof.Rows
set_option Elab.async false
set_option maxRecDepth 100000
set_option maxHeartbeats 8000000
namespace Mine
local macro_rules | `(tactic| walk_at "call ref") => `(tactic| (k_here; kts_any; k_dflt (refine wpAny_call ?_; (refine' enterTry ?k1 ?k2 ?k3 ?k4 ?k5 ?kA ?kF ?kE ?k6 ?k7 ?k8 ?k9 ?kB ?_ ?c2 ?c3 ?c4 ?c5; (case kA => exact rfl); (case kF => exact rfl); (case kE => exact rfl); (case k2 => k_asm); (case k1 => k_asm); (case k3 => k_asm); (case k4 => k_asm); (case k5 => k_asm); (case k6 => k_is); (case k7 => k_is); (case k8 => k_room); (case k9 => first | exact binds_K (by k_in) rfl (by k_is) rfl rfl rfl | exact BindsTo.of_eq rfl | fail "no rule for these arguments"); (case kB => exact locs rfl); (case c2 => exact rfl); (case c3 => exact rfl); (case c4 => exact rfl); (case c5 => decide); k_whole; intro g' L' h' FG' F' N' B' X' T' D'; (try dsimp only); (try k_lift B'); (try k_fold)))))
theorem and_keepSz2 {a b : Prop} (ha : a) (hb : a → b) : a ∧ b := ⟨ha, hb ha⟩
local macro_rules | `(tactic| walk_at "And") => `(tactic| ((with_reducible show PySem.Str.length (_ ++ _) ≤ sizeLine ∧ _); refine and_keepSz2 ?a ?_; (case a => size_fits); intro hSz'))
local macro_rules | `(tactic| walk_at "joinParts") => `(tactic| ((try (with_reducible refine joinParts_nilE ?_)); (with_reducible show wpAny _ _ (joinParts _ []) _ _ _); (with_reducible refine joinParts_nil (hsz := ?hsz) ?_); (case hsz => with_reducible assumption)))
local macro_rules | `(tactic| walk_at "ite") => `(tactic| (k_here; refine ite_isFalse (by simp only [ne_eq, not_true_eq_false, decide_false]; done) ?_))

set_option pp.deepTerms false in
theorem sz2 : ∀ (w : World) (mean : ExcName → Option Value) (mg mb : Str → Option Value) (L a : Addr) (ccd : Value) (h₀ : Heap) (m : Str → Option Value) (news : List (Addr × Obj)) (s : Shared) (Q : Value → Shared → Prop) (E : Value → Shared → Prop) (p : Addr) (x y z : Int) (t0 tx ty tx2 ty2 tz : Tok)
  (_ : Below callerA h₀ [] h₀) (_ : Fr h₀ L s.heap m) (_ : (hd.heap_39 w.params).In h₀) (_ : News h₀ L s.heap ((p, ({ cls := .type "tuple", data := .seq [Value.int x tx, Value.int y ty].toArray } : Obj)) :: news)) (_ : Top hd.view_39 (looseW hd.view_39 []) mean mg mb h₀) (_ : 0 ≤ x) (_ : 0 ≤ y) (_ : x < 9) (_ : y < 9)
  (_ : ∀ (h' : Heap) (tk' : Tok) (q : Addr) (n : Nat), Fr h₀ L h' m → News h₀ L h' ((q, listOf [Value.ref p].toArray n) :: (p, ({ cls := .type "tuple", data := .seq [Value.int x tx, Value.int y ty].toArray } : Obj)) :: news) → Q (.ref q) { s with heap := h', toks := tk' }),
  wpAny (model Challenge.rw_ax6025_01.row.prog w) (callerA.deeper (lawEnv L a ccd)) (call (.ref 105) [.int 2 t0, .ref p, .none, .none]) Q E s := by
  w_on
  k_fill
  intros
  k_steps
  all_goals try (exfalso; omega)
  (with_reducible rename ∀ (h' : Heap) (tk' : Tok) (q : Addr) (n : Nat), _ → _ → _ => hQ)
  exact hQ _ _ _ _ (by assumption) (by assumption)

end Mine
end
section
open PySem PySem.W PySem.Calls PyProof.Rows
set_option Elab.async false
set_option maxRecDepth 100000
set_option maxHeartbeats 8000000
namespace Mine
local macro_rules | `(tactic| walk_at "call ref") => `(tactic| (k_here; kts_any; k_dflt (refine wpAny_call ?_; (refine' enterTry ?k1 ?k2 ?k3 ?k4 ?k5 ?kA ?kF ?kE ?k6 ?k7 ?k8 ?k9 ?kB ?_ ?c2 ?c3 ?c4 ?c5; (case kA => exact rfl); (case kF => exact rfl); (case kE => exact rfl); (case k2 => k_asm); (case k1 => k_asm); (case k3 => k_asm); (case k4 => k_asm); (case k5 => k_asm); (case k6 => k_is); (case k7 => k_is); (case k8 => k_room); (case k9 => first | exact binds_K (by k_in) rfl (by k_is) rfl rfl rfl | exact BindsTo.of_eq rfl | fail "no rule for these arguments"); (case kB => exact locs rfl); (case c2 => exact rfl); (case c3 => exact rfl); (case c4 => exact rfl); (case c5 => decide); k_whole; intro g' L' h' FG' F' N' B' X' T' D'; (try dsimp only); (try k_lift B'); (try k_fold)))))
theorem and_keepSz3 {a b : Prop} (ha : a) (hb : a → b) : a ∧ b := ⟨ha, hb ha⟩
local macro_rules | `(tactic| walk_at "And") => `(tactic| ((with_reducible show PySem.Str.length (_ ++ _) ≤ sizeLine ∧ _); refine and_keepSz3 ?a ?_; (case a => size_fits); intro hSz'))
local macro_rules | `(tactic| walk_at "joinParts") => `(tactic| ((try (with_reducible refine joinParts_nilE ?_)); (with_reducible show wpAny _ _ (joinParts _ []) _ _ _); (with_reducible refine joinParts_nil (hsz := ?hsz) ?_); (case hsz => with_reducible assumption)))
local macro_rules | `(tactic| walk_at "ite") => `(tactic| (k_here; refine ite_isFalse (by simp only [ne_eq, not_true_eq_false, decide_false]; done) ?_))

set_option pp.deepTerms false in
theorem sz3 : ∀ (w : World) (mean : ExcName → Option Value) (mg mb : Str → Option Value) (L a : Addr) (ccd : Value) (h₀ : Heap) (m : Str → Option Value) (news : List (Addr × Obj)) (s : Shared) (Q : Value → Shared → Prop) (E : Value → Shared → Prop) (p : Addr) (x y z : Int) (t0 tx ty tx2 ty2 tz : Tok)
  (_ : Below callerA h₀ [] h₀) (_ : Fr h₀ L s.heap m) (_ : (hd.heap_39 w.params).In h₀) (_ : News h₀ L s.heap (news)) (_ : Top hd.view_39 (looseW hd.view_39 []) mean mg mb h₀) (_ : 0 ≤ x) (_ : 0 ≤ y) (_ : x < 9) (_ : y < 9)
  (_ : ∀ (h' : Heap) (tk' : Tok) (q t : Addr) (n : Nat), Fr h₀ L h' m → News h₀ L h' ((q, listOf [Value.ref t].toArray n) :: (t, ({ cls := .type "tuple", data := .seq [Value.int x tx, Value.int y ty].toArray } : Obj)) :: news) → Q (.ref q) { s with heap := h', toks := tk' }),
  wpAny (model Challenge.rw_ax6025_01.row.prog w) (callerA.deeper (lawEnv L a ccd)) (call (.ref 105) [.int 2 t0, .none, .int x tx, .int y ty]) Q E s := by
  w_on
  k_fill
  intros
  k_steps
  all_goals try (exfalso; omega)
  (with_reducible rename ∀ (h' : Heap) (tk' : Tok) (q t : Addr) (n : Nat), _ → _ → _ => hQ)
  exact hQ _ _ _ _ _ (by assumption) (by assumption)

end Mine
end
section
open PySem PySem.W PySem.Calls PyProof.Rows
set_option Elab.async false
set_option maxRecDepth 100000
set_option maxHeartbeats 8000000
namespace Mine
local macro_rules | `(tactic| walk_at "call ref") => `(tactic| (k_here; kts_any; k_dflt (refine wpAny_call ?_; (refine' enterTry ?k1 ?k2 ?k3 ?k4 ?k5 ?kA ?kF ?kE ?k6 ?k7 ?k8 ?k9 ?kB ?_ ?c2 ?c3 ?c4 ?c5; (case kA => exact rfl); (case kF => exact rfl); (case kE => exact rfl); (case k2 => k_asm); (case k1 => k_asm); (case k3 => k_asm); (case k4 => k_asm); (case k5 => k_asm); (case k6 => k_is); (case k7 => k_is); (case k8 => k_room); (case k9 => first | exact binds_K (by k_in) rfl (by k_is) rfl rfl rfl | exact BindsTo.of_eq rfl | fail "no rule for these arguments"); (case kB => exact locs rfl); (case c2 => exact rfl); (case c3 => exact rfl); (case c4 => exact rfl); (case c5 => decide); k_whole; intro g' L' h' FG' F' N' B' X' T' D'; (try dsimp only); (try k_lift B'); (try k_fold)))))
theorem and_keepSz4 {a b : Prop} (ha : a) (hb : a → b) : a ∧ b := ⟨ha, hb ha⟩
local macro_rules | `(tactic| walk_at "And") => `(tactic| ((with_reducible show PySem.Str.length (_ ++ _) ≤ sizeLine ∧ _); refine and_keepSz4 ?a ?_; (case a => size_fits); intro hSz'))
local macro_rules | `(tactic| walk_at "joinParts") => `(tactic| ((try (with_reducible refine joinParts_nilE ?_)); (with_reducible show wpAny _ _ (joinParts _ []) _ _ _); (with_reducible refine joinParts_nil (hsz := ?hsz) ?_); (case hsz => with_reducible assumption)))
local macro_rules | `(tactic| walk_at "ite") => `(tactic| (k_here; refine ite_isFalse (by simp only [ne_eq, not_true_eq_false, decide_false]; done) ?_))

set_option pp.deepTerms false in
theorem sz4 : ∀ (w : World) (mean : ExcName → Option Value) (mg mb : Str → Option Value) (L a : Addr) (ccd : Value) (h₀ : Heap) (m : Str → Option Value) (news : List (Addr × Obj)) (s : Shared) (Q : Value → Shared → Prop) (E : Value → Shared → Prop) (p : Addr) (x y z : Int) (t0 tx ty tx2 ty2 tz : Tok)
  (_ : Below callerA h₀ [] h₀) (_ : Fr h₀ L s.heap m) (_ : (hd.heap_39 w.params).In h₀) (_ : News h₀ L s.heap ((p, ({ cls := .type "tuple", data := .seq [Value.int x tx, Value.int y ty].toArray } : Obj)) :: news)) (_ : Top hd.view_39 (looseW hd.view_39 []) mean mg mb h₀) (_ : 0 ≤ x) (_ : 0 ≤ y) (_ : x < 9) (_ : y < 9)(_ : z ≠ x) (_ : 0 ≤ z) (_ : z < 20)
  (_ : ∀ (h' : Heap) (tk' : Tok), Fr h₀ L h' m → News h₀ L h' ((p, ({ cls := .type "tuple", data := .seq [Value.int x tx, Value.int y ty].toArray } : Obj)) :: news) → Q .none { s with heap := h', toks := tk' }),
  wpAny (model Challenge.rw_ax6025_01.row.prog w) (callerA.deeper (lawEnv L a ccd)) (call (.ref 105) [.int 2 t0, .ref p, .int z tz, .none]) Q E s := by
  w_on
  k_fill
  intros
  k_steps
  all_goals try (exfalso; omega)
  (with_reducible rename ∀ (h' : Heap) (tk' : Tok), _ → _ → _ => hQ)
  exact hQ _ _ (by assumption) (by assumption)

end Mine
end
section
open PySem PySem.W PySem.Calls PyProof.Rows
set_option Elab.async false
set_option maxRecDepth 100000
set_option maxHeartbeats 8000000
namespace Mine
local macro_rules | `(tactic| walk_at "call ref") => `(tactic| (k_here; kts_any; k_dflt (refine wpAny_call ?_; (refine' enterTry ?k1 ?k2 ?k3 ?k4 ?k5 ?kA ?kF ?kE ?k6 ?k7 ?k8 ?k9 ?kB ?_ ?c2 ?c3 ?c4 ?c5; (case kA => exact rfl); (case kF => exact rfl); (case kE => exact rfl); (case k2 => k_asm); (case k1 => k_asm); (case k3 => k_asm); (case k4 => k_asm); (case k5 => k_asm); (case k6 => k_is); (case k7 => k_is); (case k8 => k_room); (case k9 => first | exact binds_K (by k_in) rfl (by k_is) rfl rfl rfl | exact BindsTo.of_eq rfl | fail "no rule for these arguments"); (case kB => exact locs rfl); (case c2 => exact rfl); (case c3 => exact rfl); (case c4 => exact rfl); (case c5 => decide); k_whole; intro g' L' h' FG' F' N' B' X' T' D'; (try dsimp only); (try k_lift B'); (try k_fold)))))
theorem and_keepSz5 {a b : Prop} (ha : a) (hb : a → b) : a ∧ b := ⟨ha, hb ha⟩
local macro_rules | `(tactic| walk_at "And") => `(tactic| ((with_reducible show PySem.Str.length (_ ++ _) ≤ sizeLine ∧ _); refine and_keepSz5 ?a ?_; (case a => size_fits); intro hSz'))
local macro_rules | `(tactic| walk_at "joinParts") => `(tactic| ((try (with_reducible refine joinParts_nilE ?_)); (with_reducible show wpAny _ _ (joinParts _ []) _ _ _); (with_reducible refine joinParts_nil (hsz := ?hsz) ?_); (case hsz => with_reducible assumption)))
local macro_rules | `(tactic| walk_at "ite") => `(tactic| (k_here; refine ite_isFalse (by simp only [ne_eq, not_true_eq_false, decide_false]; done) ?_))

set_option pp.deepTerms false in
theorem sz5 : ∀ (w : World) (mean : ExcName → Option Value) (mg mb : Str → Option Value) (L a : Addr) (ccd : Value) (h₀ : Heap) (m : Str → Option Value) (news : List (Addr × Obj)) (s : Shared) (Q : Value → Shared → Prop) (E : Value → Shared → Prop) (p : Addr) (x y z : Int) (t0 tx ty tx2 ty2 tz : Tok)
  (_ : Below callerA h₀ [] h₀) (_ : Fr h₀ L s.heap m) (_ : (hd.heap_39 w.params).In h₀) (_ : News h₀ L s.heap ((p, ({ cls := .type "tuple", data := .seq [Value.int x tx, Value.int y ty].toArray } : Obj)) :: news)) (_ : Top hd.view_39 (looseW hd.view_39 []) mean mg mb h₀) (_ : 0 ≤ x) (_ : 0 ≤ y) (_ : x < 9) (_ : y < 9)(_ : z ≠ y) (_ : 0 ≤ z) (_ : z < 20)
  (_ : ∀ (h' : Heap) (tk' : Tok), Fr h₀ L h' m → News h₀ L h' ((p, ({ cls := .type "tuple", data := .seq [Value.int x tx, Value.int y ty].toArray } : Obj)) :: news) → Q .none { s with heap := h', toks := tk' }),
  wpAny (model Challenge.rw_ax6025_01.row.prog w) (callerA.deeper (lawEnv L a ccd)) (call (.ref 105) [.int 2 t0, .ref p, .none, .int z tz]) Q E s := by
  w_on
  k_fill
  intros
  k_steps
  all_goals try (exfalso; omega)
  (with_reducible rename ∀ (h' : Heap) (tk' : Tok), _ → _ → _ => hQ)
  exact hQ _ _ (by assumption) (by assumption)

end Mine
end
section
open PySem PySem.W PySem.Calls PyProof.Rows
set_option Elab.async false
set_option maxRecDepth 100000
set_option maxHeartbeats 8000000
namespace Mine
local macro_rules | `(tactic| walk_at "call ref") => `(tactic| (k_here; kts_any; k_dflt (refine wpAny_call ?_; (refine' enterTry ?k1 ?k2 ?k3 ?k4 ?k5 ?kA ?kF ?kE ?k6 ?k7 ?k8 ?k9 ?kB ?_ ?c2 ?c3 ?c4 ?c5; (case kA => exact rfl); (case kF => exact rfl); (case kE => exact rfl); (case k2 => k_asm); (case k1 => k_asm); (case k3 => k_asm); (case k4 => k_asm); (case k5 => k_asm); (case k6 => k_is); (case k7 => k_is); (case k8 => k_room); (case k9 => first | exact binds_K (by k_in) rfl (by k_is) rfl rfl rfl | exact BindsTo.of_eq rfl | fail "no rule for these arguments"); (case kB => exact locs rfl); (case c2 => exact rfl); (case c3 => exact rfl); (case c4 => exact rfl); (case c5 => decide); k_whole; intro g' L' h' FG' F' N' B' X' T' D'; (try dsimp only); (try k_lift B'); (try k_fold)))))
theorem and_keepSz6 {a b : Prop} (ha : a) (hb : a → b) : a ∧ b := ⟨ha, hb ha⟩
local macro_rules | `(tactic| walk_at "And") => `(tactic| ((with_reducible show PySem.Str.length (_ ++ _) ≤ sizeLine ∧ _); refine and_keepSz6 ?a ?_; (case a => size_fits); intro hSz'))
local macro_rules | `(tactic| walk_at "joinParts") => `(tactic| ((try (with_reducible refine joinParts_nilE ?_)); (with_reducible show wpAny _ _ (joinParts _ []) _ _ _); (with_reducible refine joinParts_nil (hsz := ?hsz) ?_); (case hsz => with_reducible assumption)))
local macro_rules | `(tactic| walk_at "ite") => `(tactic| (k_here; refine ite_isFalse (by simp only [ne_eq, not_true_eq_false, decide_false]; done) ?_))

set_option pp.deepTerms false in
theorem sz6 : ∀ (w : World) (mean : ExcName → Option Value) (mg mb : Str → Option Value) (L a : Addr) (ccd : Value) (h₀ : Heap) (m : Str → Option Value) (news : List (Addr × Obj)) (s : Shared) (Q : Value → Shared → Prop) (E : Value → Shared → Prop) (p : Addr) (x y z : Int) (t0 tx ty tx2 ty2 tz : Tok)
  (_ : Below callerA h₀ [] h₀) (_ : Fr h₀ L s.heap m) (_ : (hd.heap_39 w.params).In h₀) (_ : News h₀ L s.heap ((p, ({ cls := .type "tuple", data := .seq [Value.int x tx, Value.int y ty, Value.int 1 tz].toArray } : Obj)) :: news)) (_ : Top hd.view_39 (looseW hd.view_39 []) mean mg mb h₀) (_ : 0 ≤ x) (_ : 0 ≤ y) (_ : x < 9) (_ : y < 9)
  (_ : ∀ (h' : Heap) (tk' : Tok), Fr h₀ L h' m → News h₀ L h' ((p, ({ cls := .type "tuple", data := .seq [Value.int x tx, Value.int y ty, Value.int 1 tz].toArray } : Obj)) :: news) → Q .none { s with heap := h', toks := tk' }),
  wpAny (model Challenge.rw_ax6025_01.row.prog w) (callerA.deeper (lawEnv L a ccd)) (call (.ref 105) [.int 2 t0, .ref p, .none, .none]) Q E s := by
  w_on
  k_fill
  intros
  k_steps
  all_goals try (exfalso; omega)
  (with_reducible rename ∀ (h' : Heap) (tk' : Tok), _ → _ → _ => hQ)
  exact hQ _ _ (by assumption) (by assumption)

end Mine
end
section
open PySem PySem.W PySem.Calls PyProof.Rows
set_option Elab.async false
set_option maxRecDepth 100000
set_option maxHeartbeats 2000000
namespace Mine
theorem oth_ne (i j : Int) : j.fmod 9 + 1 + i.fmod 5 ≠ j.fmod 9 := by have := fm_lo i 5 (by decide); omega
theorem oth_lo (i j : Int) : 0 ≤ j.fmod 9 + 1 + i.fmod 5 := by have := fm_lo i 5 (by decide); have := fm_lo j 9 (by decide); omega
theorem oth_hi (i j : Int) : j.fmod 9 + 1 + i.fmod 5 < 20 := by have := fm_hi i 5 (by decide); have := fm_hi j 9 (by decide); omega
theorem one_ne (j : Int) : j.fmod 9 + 1 ≠ j.fmod 9 := by omega
theorem one_lo (j : Int) : 0 ≤ j.fmod 9 + 1 := by have := fm_lo j 9 (by decide); omega
theorem one_hi (j : Int) : j.fmod 9 + 1 < 20 := by have := fm_hi j 9 (by decide); omega
local macro_rules | `(tactic| walk_at "call ref") => `(tactic| (k_here; (with_reducible rename News _ _ _ _ => nN); (with_reducible rename Fr _ _ _ _ => fF); (with_reducible rename Frag.In _ _ => xX); (with_reducible rename Top _ _ _ _ _ _ => tT); (with_reducible rename Below _ _ _ _ => bB); (k_dflt (first
  | (refine' sz1 _ _ _ _ _ _ _ _ _ _ _ _ _ _ _ _ 0 _ _ _ _ _ 0 bB fF xX (News.cons_mem nN ?hp) tT ?h1 ?h2 ?h3 ?h4 ?_; (case hp => first | exact .head _ | exact .tail _ (.head _) | exact .tail _ (.tail _ (.head _)) | exact .tail _ (.tail _ (.tail _ (.head _))) | exact .tail _ (.tail _ (.tail _ (.tail _ (.head _)))) | exact .tail _ (.tail _ (.tail _ (.tail _ (.tail _ (.head _))))) | exact .tail _ (.tail _ (.tail _ (.tail _ (.tail _ (.tail _ (.head _)))))) | exact .tail _ (.tail _ (.tail _ (.tail _ (.tail _ (.tail _ (.tail _ (.head _)))))))); (case h1 => exact fm_lo _ _ (by decide)); (case h2 => exact fm_lo _ _ (by decide)); (case h3 => exact fm_hi _ _ (by decide)); (case h4 => exact fm_hi _ _ (by decide)); intro h' tk' q' n' F' N'; replace N' := News.skip2 N')
  | (refine' sz2 _ _ _ _ _ _ _ _ _ _ _ _ _ _ _ _ 0 _ _ _ 0 0 0 bB fF xX (News.cons_mem nN ?hp) tT ?h1 ?h2 ?h3 ?h4 ?_; (case hp => first | exact .head _ | exact .tail _ (.head _) | exact .tail _ (.tail _ (.head _)) | exact .tail _ (.tail _ (.tail _ (.head _))) | exact .tail _ (.tail _ (.tail _ (.tail _ (.head _)))) | exact .tail _ (.tail _ (.tail _ (.tail _ (.tail _ (.head _))))) | exact .tail _ (.tail _ (.tail _ (.tail _ (.tail _ (.tail _ (.head _)))))) | exact .tail _ (.tail _ (.tail _ (.tail _ (.tail _ (.tail _ (.tail _ (.head _)))))))); (case h1 => exact fm_lo _ _ (by decide)); (case h2 => exact fm_lo _ _ (by decide)); (case h3 => exact fm_hi _ _ (by decide)); (case h4 => exact fm_hi _ _ (by decide)); intro h' tk' q' n' F' N'; replace N' := News.skip2 N')
  | (refine' sz3 _ _ _ _ _ _ _ _ _ _ _ _ _ 0 _ _ 0 _ _ _ 0 0 0 bB fF xX nN tT ?h1 ?h2 ?h3 ?h4 ?_; (case h1 => exact fm_lo _ _ (by decide)); (case h2 => exact fm_lo _ _ (by decide)); (case h3 => exact fm_hi _ _ (by decide)); (case h4 => exact fm_hi _ _ (by decide)); intro h' tk' q' t' n' F' N')
  | (refine' sz6 _ _ _ _ _ _ _ _ _ _ _ _ _ _ _ _ 0 _ _ _ 0 0 _ bB fF xX (News.cons_mem nN ?hp) tT ?h1 ?h2 ?h3 ?h4 ?_; (case hp => first | exact .head _ | exact .tail _ (.head _) | exact .tail _ (.tail _ (.head _)) | exact .tail _ (.tail _ (.tail _ (.head _))) | exact .tail _ (.tail _ (.tail _ (.tail _ (.head _)))) | exact .tail _ (.tail _ (.tail _ (.tail _ (.tail _ (.head _))))) | exact .tail _ (.tail _ (.tail _ (.tail _ (.tail _ (.tail _ (.head _)))))) | exact .tail _ (.tail _ (.tail _ (.tail _ (.tail _ (.tail _ (.tail _ (.head _)))))))); (case h1 => exact fm_lo _ _ (by decide)); (case h2 => exact fm_lo _ _ (by decide)); (case h3 => exact fm_hi _ _ (by decide)); (case h4 => exact fm_hi _ _ (by decide)); intro h' tk' F' N'; replace N' := News.drop1 N')
  | (refine' sz4 _ _ _ _ _ _ _ _ _ _ _ _ _ _ _ _ _ _ _ _ 0 0 _ bB fF xX (News.cons_mem nN ?hp) tT ?h1 ?h2 ?h3 ?h4 ?h5 ?h6 ?h7 ?_; (case hp => first | exact .head _ | exact .tail _ (.head _) | exact .tail _ (.tail _ (.head _)) | exact .tail _ (.tail _ (.tail _ (.head _))) | exact .tail _ (.tail _ (.tail _ (.tail _ (.head _)))) | exact .tail _ (.tail _ (.tail _ (.tail _ (.tail _ (.head _))))) | exact .tail _ (.tail _ (.tail _ (.tail _ (.tail _ (.tail _ (.head _)))))) | exact .tail _ (.tail _ (.tail _ (.tail _ (.tail _ (.tail _ (.tail _ (.head _)))))))); (case h1 => exact fm_lo _ _ (by decide)); (case h2 => exact fm_lo _ _ (by decide)); (case h3 => exact fm_hi _ _ (by decide)); (case h4 => exact fm_hi _ _ (by decide)); (case h5 => exact oth_ne _ _); (case h6 => exact oth_lo _ _); (case h7 => exact oth_hi _ _); intro h' tk' F' N'; replace N' := News.drop1 N')
  | (refine' sz5 _ _ _ _ _ _ _ _ _ _ _ _ _ _ _ _ _ _ _ _ 0 0 _ bB fF xX (News.cons_mem nN ?hp) tT ?h1 ?h2 ?h3 ?h4 ?h5 ?h6 ?h7 ?_; (case hp => first | exact .head _ | exact .tail _ (.head _) | exact .tail _ (.tail _ (.head _)) | exact .tail _ (.tail _ (.tail _ (.head _))) | exact .tail _ (.tail _ (.tail _ (.tail _ (.head _)))) | exact .tail _ (.tail _ (.tail _ (.tail _ (.tail _ (.head _))))) | exact .tail _ (.tail _ (.tail _ (.tail _ (.tail _ (.tail _ (.head _)))))) | exact .tail _ (.tail _ (.tail _ (.tail _ (.tail _ (.tail _ (.tail _ (.head _)))))))); (case h1 => exact fm_lo _ _ (by decide)); (case h2 => exact fm_lo _ _ (by decide)); (case h3 => exact fm_hi _ _ (by decide)); (case h4 => exact fm_hi _ _ (by decide)); (case h5 => exact one_ne _); (case h6 => exact one_lo _); (case h7 => exact one_hi _); intro h' tk' F' N'; replace N' := News.drop1 N'))); (try dsimp only)))
set_option pp.deepTerms false in
theorem lawTail : ∀ (w : World) (mean : ExcName → Option Value) (mg mb : Str → Option Value) (L a : Addr) (ccd : Value) (h₀ : Heap) (m0 : Str → Option Value) (s : Shared) (Q : Flow → Shared → Prop) (E : Value → Shared → Prop) (p : Addr) (a0 a1 a2 a3 a4 a5 a6 a7 a8 : Int) (n : Nat) (t0 t1 t2 t3 t4 t5 t6 t7 t8 : Tok)
  (_ : Below callerA h₀ [] h₀) (_ : Fr h₀ L s.heap (fun y => if y = Str.ofString "found" then some (.ref p) else m0 y)) (_ : (hd.heap_39 w.params).In h₀) (_ : News h₀ L s.heap [(p, listOf [Value.int a0 t0, Value.int a1 t1, Value.int a2 t2, Value.int a3 t3, Value.int a4 t4, Value.int a5 t5, Value.int a6 t6, Value.int a7 t7, Value.int a8 t8].toArray n)]) (_ : Top hd.view_39 (looseW hd.view_39 []) mean mg mb h₀)
  (_ : ∀ (h' : Heap) (tk' : Tok) (m' : Str → Option Value), Fr h₀ L h' m' → Q (.ret (.bool true)) { s with heap := h', toks := tk' }),
  wpAny (model Challenge.rw_ax6025_01.row.prog w) (callerA.deeper (lawEnv L a ccd)) (execs (lawStmts 12) (lawEnv L a ccd)) Q E s := by
  w_on
  k_fill
  intros
  conv in execs _ _ => arg 1; whnf
  k_steps
  (with_reducible rename ∀ (h' : Heap) (tk' : Tok) (m' : Str → Option Value), _ → _ => hQ)
  exact hQ _ _ _ (by assumption)
end Mine
end
section
open PySem PySem.W PySem.Calls PyProof.Rows
set_option Elab.async false
set_option maxRecDepth 100000
set_option maxHeartbeats 8000000
namespace Mine
local macro_rules | `(tactic| walk_at "call ref") => `(tactic| (k_here; kts_any; k_dflt (refine wpAny_call ?_; (refine' enterTry ?k1 ?k2 ?k3 ?k4 ?k5 ?kA ?kF ?kE ?k6 ?k7 ?k8 ?k9 ?kB ?_ ?c2 ?c3 ?c4 ?c5; (case kA => exact rfl); (case kF => exact rfl); (case kE => exact rfl); (case k2 => k_asm); (case k1 => k_asm); (case k3 => k_asm); (case k4 => k_asm); (case k5 => k_asm); (case k6 => k_is); (case k7 => k_is); (case k8 => k_room); (case k9 => first | exact binds_K (by k_in) rfl (by k_is) rfl rfl rfl | exact BindsTo.of_eq rfl | fail "no rule for these arguments"); (case kB => exact locs rfl); (case c2 => exact rfl); (case c3 => exact rfl); (case c4 => exact rfl); (case c5 => decide); k_whole; intro g' L' h' FG' F' N' B' X' T' D'; (try dsimp only); (try k_lift B'); (try k_fold)))))
theorem and_keepLCol {a b : Prop} (ha : a) (hb : a → b) : a ∧ b := ⟨ha, hb ha⟩
local macro_rules | `(tactic| walk_at "And") => `(tactic| ((with_reducible show PySem.Str.length (_ ++ _) ≤ sizeLine ∧ _); refine and_keepLCol ?a ?_; (case a => size_fits); intro hSz'))
local macro_rules | `(tactic| walk_at "joinParts") => `(tactic| ((try (with_reducible refine joinParts_nilE ?_)); (with_reducible show wpAny _ _ (joinParts _ []) _ _ _); (with_reducible refine joinParts_nil (hsz := ?hsz) ?_); (case hsz => with_reducible assumption)))
local macro_rules | `(tactic| walk_at "ite") => `(tactic| (k_here; refine ite_isFalse (by simp only [ne_eq, not_true_eq_false, decide_false]; done) ?_))

set_option pp.deepTerms false in
theorem lcol : ∀ (w : World) (mean : ExcName → Option Value) (mg mb : Str → Option Value) (L a : Addr) (ccd : Value) (h₀ : Heap) (m : Str → Option Value) (news : List (Addr × Obj)) (s : Shared) (Q : Value → Shared → Prop) (E : Value → Shared → Prop) (p : Addr) (a0 a1 a2 a3 a4 a5 a6 a7 a8 : Int) (n : Nat) (t0 t1 t2 t3 t4 t5 t6 t7 t8 : Tok)
  (_ : Below callerA h₀ [] h₀) (_ : Fr h₀ L s.heap m) (_ : (hd.heap_39 w.params).In h₀) (_ : News h₀ L s.heap ((p, listOf [Value.int a0 t0, Value.int a1 t1, Value.int a2 t2, Value.int a3 t3, Value.int a4 t4, Value.int a5 t5, Value.int a6 t6, Value.int a7 t7, Value.int a8 t8].toArray n) :: news)) (_ : Top hd.view_39 (looseW hd.view_39 []) mean mg mb h₀) 
  (_ : ∀ (h' : Heap) (tk' : Tok) (q : Addr) ,  Fr h₀ L h' m → News h₀ L h' ((q, ({ cls := .type "tuple", data := .seq [.none, .none].toArray } : Obj)) :: (p, listOf [Value.int a0 t0, Value.int a1 t1, Value.int a2 t2, Value.int a3 t3, Value.int a4 t4, Value.int a5 t5, Value.int a6 t6, Value.int a7 t7, Value.int a8 t8].toArray n) :: news) → Q (.ref q) { s with heap := h', toks := tk' })
  (_ : ∀ (h' : Heap) (tk' : Tok) (q : Addr) (x : Int) (t : Tok), 0 ≤ x → Fr h₀ L h' m → News h₀ L h' ((q, ({ cls := .type "tuple", data := .seq [.int x t, .none].toArray } : Obj)) :: (p, listOf [Value.int a0 t0, Value.int a1 t1, Value.int a2 t2, Value.int a3 t3, Value.int a4 t4, Value.int a5 t5, Value.int a6 t6, Value.int a7 t7, Value.int a8 t8].toArray n) :: news) → Q (.ref q) { s with heap := h', toks := tk' })
  (_ : ∀ (h' : Heap) (tk' : Tok) (q : Addr) (c r : Addr) (k : Nat) (vs : List Value) (ns : List Int), IntsAre vs ns → 1 ≤ ns.length → ns.length ≤ 4 → (∀ x ∈ ns, 0 ≤ x) → Fr h₀ L h' m → News h₀ L h' ((q, ({ cls := .type "tuple", data := .seq [.ref c, .ref r].toArray } : Obj)) :: (c, ({ cls := .type "tuple", data := .seq vs.toArray } : Obj)) :: (r, listOf vs.toArray k) :: (p, listOf [Value.int a0 t0, Value.int a1 t1, Value.int a2 t2, Value.int a3 t3, Value.int a4 t4, Value.int a5 t5, Value.int a6 t6, Value.int a7 t7, Value.int a8 t8].toArray n) :: news) → Q (.ref q) { s with heap := h', toks := tk' })
  (_ : ∀ (h' : Heap) (tk' : Tok) (q : Addr) (c r : Addr) (k : Nat) (u v w : Tok),  Fr h₀ L h' m → News h₀ L h' ((q, ({ cls := .type "tuple", data := .seq [.ref c, .ref r].toArray } : Obj)) :: (c, ({ cls := .type "tuple", data := .seq [Value.int 1 u, Value.int (-1) v, Value.int 3 w].toArray } : Obj)) :: (r, listOf [Value.int 1 u, Value.int (-1) v, Value.int 3 w].toArray k) :: (p, listOf [Value.int a0 t0, Value.int a1 t1, Value.int a2 t2, Value.int a3 t3, Value.int a4 t4, Value.int a5 t5, Value.int a6 t6, Value.int a7 t7, Value.int a8 t8].toArray n) :: news) → Q (.ref q) { s with heap := h', toks := tk' })
  (_ : ∀ (h' : Heap) (tk' : Tok) (q : Addr) (c r : Addr) (k : Nat) (u : Tok),  Fr h₀ L h' m → News h₀ L h' ((q, ({ cls := .type "tuple", data := .seq [.ref c, .ref r].toArray } : Obj)) :: (c, ({ cls := .type "tuple", data := .seq [Value.int (-1) u].toArray } : Obj)) :: (r, listOf [Value.int (-1) u].toArray k) :: (p, listOf [Value.int a0 t0, Value.int a1 t1, Value.int a2 t2, Value.int a3 t3, Value.int a4 t4, Value.int a5 t5, Value.int a6 t6, Value.int a7 t7, Value.int a8 t8].toArray n) :: news) → Q (.ref q) { s with heap := h', toks := tk' })
  (_ : ∀ (h' : Heap) (tk' : Tok) (q : Addr) (c r : Addr) (k : Nat) (u v w : Tok),  Fr h₀ L h' m → News h₀ L h' ((q, ({ cls := .type "tuple", data := .seq [.ref c, .ref r].toArray } : Obj)) :: (c, ({ cls := .type "tuple", data := .seq [Value.int 2 u, Value.str (Str.ofString "x") v, Value.int 3 w].toArray } : Obj)) :: (r, listOf [Value.int 2 u, Value.str (Str.ofString "x") v, Value.int 3 w].toArray k) :: (p, listOf [Value.int a0 t0, Value.int a1 t1, Value.int a2 t2, Value.int a3 t3, Value.int a4 t4, Value.int a5 t5, Value.int a6 t6, Value.int a7 t7, Value.int a8 t8].toArray n) :: news) → Q (.ref q) { s with heap := h', toks := tk' }),
  wpAny (model Challenge.rw_ax6025_01.row.prog w) (callerA.deeper (lawEnv L a ccd)) (call (.ref 98) [.ref p]) Q E s := by
  w_on
  k_fill
  intros
  rename_i H0 H1 H2 H6 H7 H8
  k_steps
  all_goals (rename Fr _ _ _ _ => F9)
  all_goals (rename News _ _ _ _ => N9)
  · exact H0 _ _ _ F9 (News.sub N9 (.cons₂ _ (.cons _ (.refl _))))
  · exact H1 _ _ _ _ _ (fm_lo _ 300 (by decide)) F9 (News.sub N9 (.cons₂ _ (.cons _ (.refl _))))
  · (rename IntsAre _ _ => hI)
    (rename _ ≠ (0 : Int) => n0)
    (rename _ ≠ (1 : Int) => n1)
    have hT := take_row' hI (fm_lo _ 9 (by decide)) n0 n1
    exact H2 _ _ _ _ _ _ _ _ hI hT.1 hT.2.1 hT.2.2 F9 (News.sub N9 (.cons₂ _ (.cons₂ _ (.cons₂ _ (.cons _ (.refl _))))))
  · exact H6 _ _ _ _ _ _ _ _ _ F9 (News.sub N9 (.cons₂ _ (.cons₂ _ (.cons₂ _ (.cons _ (.refl _))))))
  · exact H7 _ _ _ _ _ _ _ F9 (News.sub N9 (.cons₂ _ (.cons₂ _ (.cons₂ _ (.cons _ (.refl _))))))
  · exact H8 _ _ _ _ _ _ _ _ _ F9 (News.sub N9 (.cons₂ _ (.cons₂ _ (.cons₂ _ (.cons _ (.refl _))))))

end Mine
end
section
open PySem PySem.W PySem.Calls PyProof.Rows
set_option Elab.async false
set_option maxRecDepth 100000
set_option maxHeartbeats 4000000
namespace Mine
theorem int_len : typeLookup (.type "int") "__len__" = pure none := by rw [typeLookup_type, builtinLookup_eq_fast]; kernel_rfl
section
variable {prog : Program} {w : World} {A : Around} {E : Value → Shared → Prop} {s : Shared}
/-- len of an int: a TypeError, new -/
theorem call_len_int {x : Int} {t : Tok} {Q : Value → Shared → Prop} (hh : A.handled = none) (hE : ∀ h' tk e, Heap.NewExc s.heap h' e "TypeError" → E (.ref e) { s with heap := h', toks := tk }) :
    wpAny (model prog w) A (call (.builtin "len") [.int x t]) Q E s := by
  refine Calls.call_function_entry kind_len plain_len entry_len (args_len1 _) ?_
  obtain ⟨hp, g, d, tk, os⟩ := s
  have f1 := int_len
  unfold Builtin.«len»
  refine wpAny_bind (m := oneArg "len" _) (wpAny_pure ?_)
  repeat (first
    | with_reducible (first
      | refine wpAny_pure ?_ | refine wpAny_bind ?_ | refine wpAny_holding ?_ | refine wpAny_standAt ?_ | refine wpAny_point ?_ | refine wpAny_rule ?_
      | refine wpAny_letGo ?_ | refine wpAny_mkInt' ?_ | refine wpAny_mkStr' ?_ | refine wpAny_fresh' ?_ | refine wpAny_alloc' ?_ | refine wpAny_attempt ?_
      | refine wpAny_throw ?_
      | refine wpAny_of_eq (by assumption) ?_ | refine wpAny_typeOf (by assumption) ?_
      | refine wpAny_specialOf_val (by assumption) (by assumption) ?_ | refine wpAny_specialOf (by assumption) (by assumption) ?_
      | refine wpAny_isInstance_val (by assumption) (by assumption) ?_ | refine wpAny_isInstance (by assumption) (by assumption) ?_
      | refine wpAny_call ?_ | refine wpAny_runValue ?_ | refine wpAny_run ?_)
    | wp_delta
    | ((with_reducible show wpAny _ _ (if _ then _ else _) _ _ _); first | (with_reducible refine wpAny_ite_false (by rfl) ?_) | (with_reducible refine wpAny_ite_true (by rfl) ?_) | (with_reducible refine wpAny_ite_false (by simp [*]; done) ?_) | (with_reducible refine wpAny_ite_true (by simp [*]; done) ?_))
    | ((with_reducible apply wpAny_load'); focus (heap_get; done))
    | ((with_reducible apply wpAny_loadPart'); focus (heap_get; done))
    | ((with_reducible apply wpAny_handled_none); focus (assumption; done))
    | with_reducible_and_instances refine wpAny_pure ?_
    | with_reducible_and_instances refine wpAny_bind ?_)
  exact wpAny_raiseErrorMade plainExc_TypeError hh (fun h' tk e hx => hE h' tk e hx) (by decide +kernel)
end
end Mine
end
section
open PySem PySem.W PySem.Calls PyProof.Rows
set_option Elab.async false
set_option maxRecDepth 100000
set_option maxHeartbeats 4000000
namespace Mine
/-- the ground of a caller behind a turn of its callee's ground -/
theorem turn_caller {A₀ : Around} {base g G kg : Heap} {outer : List Env} {L a : Addr} {m : Str → Option Value} {name : Str} {scope : Scope} {cd : Value}
    (K : Below A₀ base outer g) (F : Fr g L G m) (D : KtsDicts (outer.filterMap (·.frame)) g) (T : KtsTurn ((envOf name scope L a cd :: outer).filterMap (·.frame)) G kg) :
    ∃ g₁, KtsTurn (outer.filterMap (·.frame)) g g₁ ∧ Fr g₁ L kg m ∧ Below A₀ base outer g₁ ∧ KtsDicts (outer.filterMap (·.frame)) g₁ := by
  obtain ⟨g₁, T₁, F₁, K₁⟩ := kts_ground (B := hideAll kg ((envOf name scope L a cd :: outer).filterMap (·.frame))) (name := name) (scope := scope) (a := a) (cd := cd) K F
    (fun b o e nm => hideAll_get _ (T.other b o e nm) nm) (fun b o e => of_hideAll _ e) (fun b o e _ => T.up e)
  exact ⟨g₁, T₁, F₁, K₁, D.turn T₁⟩
end Mine
end
section
open PySem PySem.W PySem.Calls PyProof.Rows
set_option Elab.async false
set_option maxRecDepth 100000
set_option maxHeartbeats 8000000
namespace Mine
local macro_rules | `(tactic| walk_at "call ref") => `(tactic| (k_here; kts_any; k_dflt (refine wpAny_call ?_; (refine' enterTry ?k1 ?k2 ?k3 ?k4 ?k5 ?kA ?kF ?kE ?k6 ?k7 ?k8 ?k9 ?kB ?_ ?c2 ?c3 ?c4 ?c5; (case kA => exact rfl); (case kF => exact rfl); (case kE => exact rfl); (case k2 => k_asm); (case k1 => k_asm); (case k3 => k_asm); (case k4 => k_asm); (case k5 => k_asm); (case k6 => k_is); (case k7 => k_is); (case k8 => k_room); (case k9 => first | exact binds_K (by k_in) rfl (by k_is) rfl rfl rfl | exact BindsTo.of_eq rfl | fail "no rule for these arguments"); (case kB => exact locs rfl); (case c2 => exact rfl); (case c3 => exact rfl); (case c4 => exact rfl); (case c5 => decide); k_whole; intro g' L' h' FG' F' N' B' X' T' D'; (try dsimp only); (try k_lift B'); (try k_fold)))))
local macro_rules | `(tactic| walk_at "noteFrame ref") => `(tactic| (k_here; (with_reducible rename Heap.NewExc _ _ _ _ => hxX); (k_dflt (refine' look_new ?lK hxX ?lF ?lN ?_ ?lk; (case lK => assumption); (case lF => assumption); (case lN => assumption); (case lk => exact rfl); k_whole)); clear hxX; intro h' G' FG'' R' U'; (try dsimp only at R' U' ⊢)))

theorem fn_in {K : Frag} {h₀ h : Heap} {L f : Addr} {m : Str → Option Value} {oc : Value} {od : Option Addr} {osl : Array (Option Value)} {name qual : Str} {params : Arguments} {body : List Stmt} {scope : Scope} {dV kV doc pm cdv ct : Value} {an : Option Addr} (X : K.In h₀) (F : Fr h₀ L h m)
    (ho : K.lookup f = some ⟨oc, od, .func (fnOf name qual params body scope dV kV doc pm an cdv ct), osl⟩) : ∃ o fd, h.get? f = some o ∧ o.data = .func fd := ⟨_, _, (X.keeps F.keep) _ _ ho, rfl⟩
set_option pp.deepTerms false in
theorem doX : ∀ (w : World) (mean : ExcName → Option Value) (mg mb : Str → Option Value) (L a : Addr) (ccd : Value) (h₀ : Heap) (m : Str → Option Value) (news : List (Addr × Obj)) (s : Shared) (R : Result → Shared → Prop) (p : Addr) (t0 ts tx ty tz : Tok)
  (_ : Below callerA h₀ [] h₀) (_ : Fr h₀ L s.heap m) (_ : (hd.heap_39 w.params).In h₀) (_ : News h₀ L s.heap ((p, ({ cls := .type "tuple", data := .seq [Value.int 2 tx, Value.str (Str.ofString "x") ty, Value.int 3 tz].toArray } : Obj)) :: news)) (_ : Top hd.view_39 (looseW hd.view_39 []) mean mg mb h₀)
  (_ : ∀ (h' : Heap) (tk' : Tok), Fr h₀ L h' m → News h₀ L h' ((p, ({ cls := .type "tuple", data := .seq [Value.int 2 tx, Value.str (Str.ofString "x") ty, Value.int 3 tz].toArray } : Obj)) :: news) → R (.ok (.ret .none)) { s with heap := h', toks := tk' }),
  codeC (model Challenge.rw_ax6025_01.row.prog w) (callerA.deeper (lawEnv L a ccd)) (.call (.ref 105) ⟨[.int 1 t0, .ref p, .bool false, .str (Str.ofString "background") ts], []⟩) R s := by
  w_on
  k_fill
  intros
  (refine' enterTryC ?k1 ?k2 ?k3 ?k4 ?k5 ?kA ?kF ?kE ?k6 ?k7 ?k8 ?k9 ?kB ?_ ?c2 ?c3 ?c4 ?c5; (case kA => exact rfl); (case kF => exact rfl); (case kE => exact rfl); (case k2 => k_asm); (case k1 => k_asm); (case k3 => k_asm); (case k4 => k_asm); (case k5 => k_asm); (case k6 => k_is); (case k7 => k_is); (case k8 => k_room); (case k9 => first | exact binds_K (by k_in) rfl (by k_is) rfl rfl rfl | exact BindsTo.of_eq rfl | fail "no rule for these arguments"); (case kB => exact locs rfl); (case c2 => exact rfl); (case c3 => exact rfl); (case c4 => exact rfl); (case c5 => decide); k_whole; intro g' L' h' FG' F' N' B' X' T' D'; (try dsimp only); (try k_lift B'); (try k_fold))
  have B1 := B'
  have D1 := D'
  refine wpC_execs_cons ?_
  refine wpC_Try ?_
  refine wpC_execs_cons ?_
  refine wpC_of ?_
  k_steps
  refine wpC_execs_cons ?_
  refine wpC_If (wpC_of ?_)
  k_steps
  refine wpC_execs_cons ?_
  refine wpC_Return ?_
  refine wpC_List1 rfl ?_
  refine wpC_Call_Name ?_
  k_steps
  obtain ⟨o, fd, hf⟩ := fn_in (f := 35) X' F' (by k_is)
  refine wpC_callWith_function (o := o) (fd := fd) (evalArgs_plain (x := eval (.Name (Str.ofString "one") _) _) (rest := [(false, eval (.Name (Str.ofString "two") _) _), (false, eval (.Name (Str.ofString "three") _) _)]) ?_)
  refine spliced_cons ?_
  k_steps
  refine spliced_cons ?_
  k_steps
  refine spliced_cons ?_
  k_steps
  refine spliced_nil ⟨hf, ?_⟩
  refine wpC_call ?_
  (refine' codeC_defS ?k1 ?k2 ?k3 ?k4 ?k5 ?XB ?TB ?D ?T0 ?kA ?k6 ?k7 ?k8 ?k9 ?kB ?_ ?cK ?c2 ?c3 ?c4 ?c5; (case kA => exact rfl); (case k2 => k_asm); (case k1 => k_asm); (case XB => assumption); (case TB => assumption); (case D => assumption); (case T0 => first | assumption | exact KtsTurn.refl); (case k3 => k_asm); (case k4 => k_asm); (case k5 => k_asm); (case k6 => k_is); (case k7 => k_is); (case k8 => k_room); (case k9 => first | exact binds_K (by k_in) rfl (by k_is) rfl rfl rfl | exact BindsTo.of_eq rfl | fail "no rule for these arguments"); (case kB => exact locs rfl); (case cK => exact rfl); (case c2 => exact rfl); (case c3 => exact rfl); (case c4 => exact rfl); (case c5 => decide); k_whole; intro g' L' h' FG' F' N' B' X' T' D'; (try dsimp only); (try k_lift B'); (try k_fold))
  have FG1 := FG'
  refine wpC_execs_cons ?_
  refine wpC_of ?_
  k_steps
  refine wpC_execs_cons ?_
  refine wpC_If (wpC_of ?_)
  k_steps
  refine wpC_execs_cons ?_
  refine wpC_If ?_
  refine wpC_isTrue_Not ?_
  refine wpC_isTrue_BoolOp ?_
  refine wpC_allTrue_And_cons ?_
  refine wpC_of ?_
  k_steps
  refine wpC_allTrue_And_cons ?_
  refine wpC_of ?_
  k_steps
  refine wpC_allTrue_And_cons ?_
  refine wpC_isTrue_value ?_
  refine wpC_Call_Name ?_
  k_steps
  rename Fr _ _ _ _ => F9
  rename Frag.In _ _ => X9
  obtain ⟨o, fd, hf⟩ := fn_in (f := 81) X9 F9 (by k_is)
  refine wpC_callWith_function (o := o) (fd := fd) (evalArgs_plain (x := eval (.Subscript _ _ _) _) (rest := []) ?_)
  refine spliced_cons ?_
  k_steps
  refine spliced_nil ⟨hf, ?_⟩
  refine wpC_call ?_
  (refine' codeC_defS ?k1 ?k2 ?k3 ?k4 ?k5 ?XB ?TB ?D ?T0 ?kA ?k6 ?k7 ?k8 ?k9 ?kB ?_ ?cK ?c2 ?c3 ?c4 ?c5; (case kA => exact rfl); (case k2 => k_asm); (case k1 => k_asm); (case XB => assumption); (case TB => assumption); (case D => assumption); (case T0 => first | assumption | exact KtsTurn.refl); (case k3 => k_asm); (case k4 => k_asm); (case k5 => k_asm); (case k6 => k_is); (case k7 => k_is); (case k8 => k_room); (case k9 => first | exact binds_K (by k_in) rfl (by k_is) rfl rfl rfl | exact BindsTo.of_eq rfl | fail "no rule for these arguments"); (case kB => exact locs rfl); (case cK => exact rfl); (case c2 => exact rfl); (case c3 => exact rfl); (case c4 => exact rfl); (case c5 => decide); k_whole; intro g' L' h' FG' F' N' B' X' T' D'; (try dsimp only); (try k_lift B'); (try k_fold))
  refine wpC_execs_cons ?_
  refine wpC_Try ?_
  refine wpC_execs_cons ?_
  refine wpC_Assign_Name ?_
  refine wpC_eval_Compare1 ?_
  refine wpC_Call_Name ?_
  k_steps
  refine wpC_callWith_type (x := eval (.Name (Str.ofString "x") _) _) (rest := []) rfl ?_
  refine spliced_cons ?_
  k_steps
  refine spliced_nil ?_
  refine' wpC_call (call_x ?hh ?_)
  case hh => rfl
  intro h' tk' e' hx'
  (try dsimp only at hx')
  (try dsimp only)
  k_steps
  refine wpC_of ?_
  k_steps
  rename KtsTurn _ _ _ => kT9
  obtain ⟨g9, T9, F9, K9, D9⟩ := turn_caller B1 FG1 D1 kT9
  k_steps
  all_goals ((with_reducible rename ∀ (h' : Heap) (tk' : Tok), _ → _ → _ => hQ); first
    | exact hQ _ _ (by assumption) (by assumption)
    | (exfalso; omega)
    | (exfalso; simp_all; done)
    | (exfalso; simp_all; omega))
end Mine
end
section
open PySem PySem.W PySem.Calls PyProof.Rows
set_option Elab.async false
set_option maxRecDepth 100000
namespace Mine
theorem wpC_callWith_es {M : Model} {A : Around} {E : Value → Shared → Prop} {s : Shared} {env : Env} {pos : Pos} {a : Addr} {o : Obj} {fd : FuncData} {e : Expr} {es : List Expr} {Q : Value → Shared → Prop}
    (h : wpAny M A (spliced ((false, eval e env) :: es.map fun e => (false, eval e env))) (fun vs s₁ => (s₁.heap.get? a = some o ∧ o.data = .func fd) ∧ wpC M A (call (.ref a) vs []) Q E s₁) E s)
    (hb : backTo pos (starEach (e :: es) env) = (false, eval e env) :: es.map fun e => (false, eval e env) := by rfl) :
    wpC M A (callWith pos (.ref a) [] (backTo pos (starEach (e :: es) env)) []) Q E s := by
  rw [hb]
  exact wpC_callWith_function (o := o) (fd := fd) (evalArgs_plain h)
end Mine
end
section
open PySem PySem.W PySem.Calls PyProof.Rows
set_option Elab.async false
set_option maxRecDepth 100000
set_option maxHeartbeats 8000000
namespace Mine
local macro_rules | `(tactic| walk_at "call ref") => `(tactic| (k_here; kts_any; k_dflt (refine wpAny_call ?_; (refine' enterTry ?k1 ?k2 ?k3 ?k4 ?k5 ?kA ?kF ?kE ?k6 ?k7 ?k8 ?k9 ?kB ?_ ?c2 ?c3 ?c4 ?c5; (case kA => exact rfl); (case kF => exact rfl); (case kE => exact rfl); (case k2 => k_asm); (case k1 => k_asm); (case k3 => k_asm); (case k4 => k_asm); (case k5 => k_asm); (case k6 => k_is); (case k7 => k_is); (case k8 => k_room); (case k9 => first | exact binds_K (by k_in) rfl (by k_is) rfl rfl rfl | exact BindsTo.of_eq rfl | fail "no rule for these arguments"); (case kB => exact locs rfl); (case c2 => exact rfl); (case c3 => exact rfl); (case c4 => exact rfl); (case c5 => decide); k_whole; intro g' L' h' FG' F' N' B' X' T' D'; (try dsimp only); (try k_lift B'); (try k_fold)))))
theorem and_keepCo7 {a b : Prop} (ha : a) (hb : a → b) : a ∧ b := ⟨ha, hb ha⟩
local macro_rules | `(tactic| walk_at "And") => `(tactic| ((with_reducible show PySem.Str.length (_ ++ _) ≤ sizeLine ∧ _); refine and_keepCo7 ?a ?_; (case a => size_fits); intro hSz'))
local macro_rules | `(tactic| walk_at "joinParts") => `(tactic| ((try (with_reducible refine joinParts_nilE ?_)); (with_reducible show wpAny _ _ (joinParts _ []) _ _ _); (with_reducible refine joinParts_nil (hsz := ?hsz) ?_); (case hsz => with_reducible assumption)))
local macro_rules | `(tactic| walk_at "ite") => `(tactic| (k_here; refine ite_isFalse (by simp only [ne_eq, not_true_eq_false, decide_false]; done) ?_))

set_option pp.deepTerms false in
theorem co7 : ∀ (w : World) (mean : ExcName → Option Value) (mg mb : Str → Option Value) (L a : Addr) (ccd : Value) (h₀ : Heap) (m : Str → Option Value) (news : List (Addr × Obj)) (s : Shared) (Q : Value → Shared → Prop) (E : Value → Shared → Prop) (p : Addr) (x y z u : Int) (t0 ts tx ty tz tu : Tok)
  (_ : Below callerA h₀ [] h₀) (_ : Fr h₀ L s.heap m) (_ : (hd.heap_39 w.params).In h₀) (_ : News h₀ L s.heap (news)) (_ : Top hd.view_39 (looseW hd.view_39 []) mean mg mb h₀) 
  (_ : ∀ (h' : Heap) (tk' : Tok) (q : Addr) (n : Nat), Fr h₀ L h' m → News h₀ L h' ((q, listOf [Value.none].toArray n) :: news) → Q (.ref q) { s with heap := h', toks := tk' }),
  wpAny (model Challenge.rw_ax6025_01.row.prog w) (callerA.deeper (lawEnv L a ccd)) (call (.ref 105) [.int 1 t0, .none, .bool true, .str (Str.ofString "transparent") ts]) Q E s := by
  w_on
  k_fill
  intros
  k_steps
  all_goals ((with_reducible rename ∀ (h' : Heap) (tk' : Tok) (q : Addr) (n : Nat), _ → _ → _ => hQ); first
    | exact hQ _ _ _ _ (by assumption) (by assumption)
    | (exfalso; omega)
    | (exfalso; simp_all; done)
    | (exfalso; simp_all; omega))

end Mine
end
section
open PySem PySem.W PySem.Calls PyProof.Rows
set_option Elab.async false
set_option maxRecDepth 100000
set_option maxHeartbeats 8000000
namespace Mine
local macro_rules | `(tactic| walk_at "call ref") => `(tactic| (k_here; kts_any; k_dflt (refine wpAny_call ?_; (refine' enterTry ?k1 ?k2 ?k3 ?k4 ?k5 ?kA ?kF ?kE ?k6 ?k7 ?k8 ?k9 ?kB ?_ ?c2 ?c3 ?c4 ?c5; (case kA => exact rfl); (case kF => exact rfl); (case kE => exact rfl); (case k2 => k_asm); (case k1 => k_asm); (case k3 => k_asm); (case k4 => k_asm); (case k5 => k_asm); (case k6 => k_is); (case k7 => k_is); (case k8 => k_room); (case k9 => first | exact binds_K (by k_in) rfl (by k_is) rfl rfl rfl | exact BindsTo.of_eq rfl | fail "no rule for these arguments"); (case kB => exact locs rfl); (case c2 => exact rfl); (case c3 => exact rfl); (case c4 => exact rfl); (case c5 => decide); k_whole; intro g' L' h' FG' F' N' B' X' T' D'; (try dsimp only); (try k_lift B'); (try k_fold)))))
theorem and_keepDo7 {a b : Prop} (ha : a) (hb : a → b) : a ∧ b := ⟨ha, hb ha⟩
local macro_rules | `(tactic| walk_at "And") => `(tactic| ((with_reducible show PySem.Str.length (_ ++ _) ≤ sizeLine ∧ _); refine and_keepDo7 ?a ?_; (case a => size_fits); intro hSz'))
local macro_rules | `(tactic| walk_at "joinParts") => `(tactic| ((try (with_reducible refine joinParts_nilE ?_)); (with_reducible show wpAny _ _ (joinParts _ []) _ _ _); (with_reducible refine joinParts_nil (hsz := ?hsz) ?_); (case hsz => with_reducible assumption)))
local macro_rules | `(tactic| walk_at "ite") => `(tactic| (k_here; refine ite_isFalse (by simp only [ne_eq, not_true_eq_false, decide_false]; done) ?_))

set_option pp.deepTerms false in
theorem do7 : ∀ (w : World) (mean : ExcName → Option Value) (mg mb : Str → Option Value) (L a : Addr) (ccd : Value) (h₀ : Heap) (m : Str → Option Value) (news : List (Addr × Obj)) (s : Shared) (Q : Value → Shared → Prop) (E : Value → Shared → Prop) (p : Addr) (x y z u : Int) (t0 ts tx ty tz tu : Tok)
  (_ : Below callerA h₀ [] h₀) (_ : Fr h₀ L s.heap m) (_ : (hd.heap_39 w.params).In h₀) (_ : News h₀ L s.heap (news)) (_ : Top hd.view_39 (looseW hd.view_39 []) mean mg mb h₀) 
  (_ : ∀ (h' : Heap) (tk' : Tok) (q : Addr) (n : Nat), Fr h₀ L h' m → News h₀ L h' ((q, listOf [Value.none].toArray n) :: news) → Q (.ref q) { s with heap := h', toks := tk' }),
  wpAny (model Challenge.rw_ax6025_01.row.prog w) (callerA.deeper (lawEnv L a ccd)) (call (.ref 105) [.int 1 t0, .none, .bool false, .str (Str.ofString "background") ts]) Q E s := by
  w_on
  k_fill
  intros
  k_steps
  all_goals ((with_reducible rename ∀ (h' : Heap) (tk' : Tok) (q : Addr) (n : Nat), _ → _ → _ => hQ); first
    | exact hQ _ _ _ _ (by assumption) (by assumption)
    | (exfalso; omega)
    | (exfalso; simp_all; done)
    | (exfalso; simp_all; omega))

end Mine
end
section
open PySem PySem.W PySem.Calls PyProof.Rows
set_option Elab.async false
set_option maxRecDepth 100000
set_option maxHeartbeats 2000000
namespace Mine
local macro_rules | `(tactic| walk_at "eval ListComp") => `(tactic| (k_here; (with_reducible rename Fr _ _ _ _ => fF); (k_dflt (refine' compF badV fF ?hA ?hclos ?hcell ?hkind ?hnames ?hx ?_ ?hs ?hd; (case hA => exact rfl); (case hclos => exact closureFor_none (by decide)); (case hcell => decide); (case hkind => exact rfl); (case hnames => decide); (case hx => exact rfl); (case hs => intro _; exact rfl); (case hd => decide)))))
local macro_rules | `(tactic| walk_at "eval Name") => `(tactic| ((with_reducible rename Heap.Ns _ _ _ => nsH); (with_reducible rename _ = some _ => nsE); (k_dflt (refine' wpAny_Name (wpAny_loadName_local ?k1 ?k2 nsH nsE ?_) ?k3; (case k1 => exact rfl); (case k2 => exact rfl); (case k3 => decide)))))
local macro_rules | `(tactic| walk_at "call ref") => `(tactic| (k_here; (with_reducible rename News _ _ _ _ => nN); (with_reducible rename Fr _ _ _ _ => fF); (with_reducible rename Frag.In _ _ => xX); (with_reducible rename Top _ _ _ _ _ _ => tT); (with_reducible rename Below _ _ _ _ => bB); (k_dflt (first
  | (refine' co7 _ _ _ _ _ _ _ _ _ _ _ _ _ 0 0 0 0 0 _ _ 0 0 0 0 bB fF xX nN tT  ?_; intro h' tk' q' n' F' N')
  | (refine' do7 _ _ _ _ _ _ _ _ _ _ _ _ _ 0 0 0 0 0 _ _ 0 0 0 0 bB fF xX nN tT  ?_; intro h' tk' q' n' F' N'))); (try dsimp only)))
set_option pp.deepTerms false in
theorem wa0 : ∀ (w : World) (mean : ExcName → Option Value) (mg mb : Str → Option Value) (L a : Addr) (ccd : Value) (h₀ : Heap) (m0 : Str → Option Value) (news : List (Addr × Obj)) (s : Shared) (Q : Flow → Shared → Prop) (E : Value → Shared → Prop) (c r : Addr) (k : Nat) (x y z u : Int) (tx ty tz tu : Tok)
  (_ : Below callerA h₀ [] h₀) (_ : Fr h₀ L s.heap (fun y => if y = Str.ofString "row" then some (.none) else if y = Str.ofString "colour" then some (.none) else m0 y)) (_ : (hd.heap_39 w.params).In h₀) (_ : News h₀ L s.heap (news)) (_ : Top hd.view_39 (looseW hd.view_39 []) mean mg mb h₀) 
  (_ : ∀ (h' : Heap) (tk' : Tok) (m' : Str → Option Value), m' (Str.ofString "found") = m0 (Str.ofString "found") → Fr h₀ L h' m' → News h₀ L h' news → Q .next { s with heap := h', toks := tk' }),
  wpAny (model Challenge.rw_ax6025_01.row.prog w) (callerA.deeper (lawEnv L a ccd)) (execs ((lawStmts 7).take 4) (lawEnv L a ccd)) Q E s := by
  w_on
  k_fill
  intros
  rename_i w mean mg mb L a ccd h₀ m0 news s Q E c r k x y z u tx ty tz tu B F X N T  hQ
  conv in execs _ _ => arg 1; whnf
  k_steps
  (try rename Fr _ _ _ _ => F9)
  (try rename News _ _ _ _ => N9)
  show wpAny _ _ (pure Flow.next) _ _ _
  refine wpAny_pure ?_
  refine hQ _ _ _ ?_ F9 (News.sub N9 ?_)
  · rfl
  · first | exact .refl _ | exact .cons _ (.refl _) | exact .cons _ (.cons _ (.refl _)) | exact .cons _ (.cons _ (.cons _ (.refl _))) | exact .cons _ (.cons _ (.cons _ (.cons _ (.refl _)))) | exact .cons _ (.cons _ (.cons _ (.cons _ (.cons _ (.refl _))))) | exact .cons _ (.cons _ (.cons _ (.cons _ (.cons _ (.cons _ (.refl _)))))) | exact .cons _ (.cons _ (.cons _ (.cons _ (.cons _ (.cons _ (.cons _ (.refl _))))))) | exact .cons _ (.cons _ (.cons _ (.cons _ (.cons _ (.cons _ (.cons _ (.cons _ (.refl _)))))))) | exact .cons _ (.cons _ (.cons _ (.cons _ (.cons _ (.cons _ (.cons _ (.cons _ (.cons _ (.refl _))))))))) | exact .cons _ (.cons _ (.cons _ (.cons _ (.cons _ (.cons _ (.cons _ (.cons _ (.cons _ (.cons _ (.refl _)))))))))) | exact .cons _ (.cons _ (.cons _ (.cons _ (.cons _ (.cons _ (.cons _ (.cons _ (.cons _ (.cons _ (.cons _ (.refl _))))))))))) | exact .cons _ (.cons _ (.cons _ (.cons _ (.cons _ (.cons _ (.cons _ (.cons _ (.cons _ (.cons _ (.cons _ (.cons _ (.refl _)))))))))))) | exact .cons _ (.cons _ (.cons _ (.cons _ (.cons _ (.cons _ (.cons _ (.cons _ (.cons _ (.cons _ (.cons _ (.cons _ (.cons _ (.refl _))))))))))))) | exact .cons _ (.cons _ (.cons _ (.cons _ (.cons _ (.cons _ (.cons _ (.cons _ (.cons _ (.cons _ (.cons _ (.cons _ (.cons _ (.cons _ (.refl _)))))))))))))) | exact .cons _ (.cons _ (.cons _ (.cons _ (.cons _ (.cons _ (.cons _ (.cons _ (.cons _ (.cons _ (.cons _ (.cons _ (.cons _ (.cons _ (.cons _ (.refl _)))))))))))))))
end Mine
end
section
open PySem PySem.W PySem.Calls PyProof.Rows
set_option Elab.async false
set_option maxRecDepth 100000
set_option maxHeartbeats 8000000
namespace Mine
local macro_rules | `(tactic| walk_at "call ref") => `(tactic| (k_here; kts_any; k_dflt (refine wpAny_call ?_; (refine' enterTry ?k1 ?k2 ?k3 ?k4 ?k5 ?kA ?kF ?kE ?k6 ?k7 ?k8 ?k9 ?kB ?_ ?c2 ?c3 ?c4 ?c5; (case kA => exact rfl); (case kF => exact rfl); (case kE => exact rfl); (case k2 => k_asm); (case k1 => k_asm); (case k3 => k_asm); (case k4 => k_asm); (case k5 => k_asm); (case k6 => k_is); (case k7 => k_is); (case k8 => k_room); (case k9 => first | exact binds_K (by k_in) rfl (by k_is) rfl rfl rfl | exact BindsTo.of_eq rfl | fail "no rule for these arguments"); (case kB => exact locs rfl); (case c2 => exact rfl); (case c3 => exact rfl); (case c4 => exact rfl); (case c5 => decide); k_whole; intro g' L' h' FG' F' N' B' X' T' D'; (try dsimp only); (try k_lift B'); (try k_fold)))))
theorem and_keepCo8 {a b : Prop} (ha : a) (hb : a → b) : a ∧ b := ⟨ha, hb ha⟩
local macro_rules | `(tactic| walk_at "And") => `(tactic| ((with_reducible show PySem.Str.length (_ ++ _) ≤ sizeLine ∧ _); refine and_keepCo8 ?a ?_; (case a => size_fits); intro hSz'))
local macro_rules | `(tactic| walk_at "joinParts") => `(tactic| ((try (with_reducible refine joinParts_nilE ?_)); (with_reducible show wpAny _ _ (joinParts _ []) _ _ _); (with_reducible refine joinParts_nil (hsz := ?hsz) ?_); (case hsz => with_reducible assumption)))
local macro_rules | `(tactic| walk_at "ite") => `(tactic| (k_here; refine ite_isFalse (by simp only [ne_eq, not_true_eq_false, decide_false]; done) ?_))
local macro_rules | `(tactic| walk_at "call builtin:len") => `(tactic| (k_here; (k_dflt (refine' call_len_int ?hh ?_; (case hh => exact rfl); k_whole)); intro h' tk' e' hx'; (try dsimp only at hx'); (try dsimp only)))
local macro_rules | `(tactic| walk_at "noteFrame ref") => `(tactic| (k_here; (with_reducible rename Heap.NewExc _ _ _ _ => hxX); (k_dflt (refine' look_new ?lK hxX ?lF ?lN ?_ ?lk; (case lK => assumption); (case lF => assumption); (case lN => assumption); (case lk => exact rfl); k_whole)); clear hxX; intro h' G' FG'' R' U'; (try dsimp only at R' U' ⊢)))

set_option pp.deepTerms false in
theorem co8 : ∀ (w : World) (mean : ExcName → Option Value) (mg mb : Str → Option Value) (L a : Addr) (ccd : Value) (h₀ : Heap) (m : Str → Option Value) (news : List (Addr × Obj)) (s : Shared) (Q : Value → Shared → Prop) (E : Value → Shared → Prop) (p : Addr) (x y z u : Int) (t0 ts tx ty tz tu : Tok)
  (_ : Below callerA h₀ [] h₀) (_ : Fr h₀ L s.heap m) (_ : (hd.heap_39 w.params).In h₀) (_ : News h₀ L s.heap (news)) (_ : Top hd.view_39 (looseW hd.view_39 []) mean mg mb h₀) (_ : 0 ≤ x)
  (_ : ∀ (h' : Heap) (tk' : Tok) (q t : Addr) (n : Nat), Fr h₀ L h' m → News h₀ L h' ((q, listOf [Value.ref t].toArray n) :: (t, ({ cls := .type "tuple", data := .seq [Value.int x tx].toArray } : Obj)) :: news) → Q (.ref q) { s with heap := h', toks := tk' }),
  wpAny (model Challenge.rw_ax6025_01.row.prog w) (callerA.deeper (lawEnv L a ccd)) (call (.ref 105) [.int 1 t0, .int x tx, .bool true, .str (Str.ofString "transparent") ts]) Q E s := by
  w_on
  k_fill
  intros
  k_steps
  all_goals ((with_reducible rename ∀ (h' : Heap) (tk' : Tok) (q t : Addr) (n : Nat), _ → _ → _ => hQ); first
    | exact hQ _ _ _ _ _ (by assumption) (by assumption)
    | (exfalso; omega)
    | (exfalso; simp_all; done)
    | (exfalso; simp_all; omega))

end Mine
end
section
open PySem PySem.W PySem.Calls PyProof.Rows
set_option Elab.async false
set_option maxRecDepth 100000
set_option maxHeartbeats 2000000
namespace Mine
local macro_rules | `(tactic| walk_at "eval ListComp") => `(tactic| (k_here; (with_reducible rename Fr _ _ _ _ => fF); (k_dflt (refine' compF badV fF ?hA ?hclos ?hcell ?hkind ?hnames ?hx ?_ ?hs ?hd; (case hA => exact rfl); (case hclos => exact closureFor_none (by decide)); (case hcell => decide); (case hkind => exact rfl); (case hnames => decide); (case hx => exact rfl); (case hs => intro _; exact rfl); (case hd => decide)))))
local macro_rules | `(tactic| walk_at "eval Name") => `(tactic| ((with_reducible rename Heap.Ns _ _ _ => nsH); (with_reducible rename _ = some _ => nsE); (k_dflt (refine' wpAny_Name (wpAny_loadName_local ?k1 ?k2 nsH nsE ?_) ?k3; (case k1 => exact rfl); (case k2 => exact rfl); (case k3 => decide)))))
local macro_rules | `(tactic| walk_at "call ref") => `(tactic| (k_here; (with_reducible rename News _ _ _ _ => nN); (with_reducible rename Fr _ _ _ _ => fF); (with_reducible rename Frag.In _ _ => xX); (with_reducible rename Top _ _ _ _ _ _ => tT); (with_reducible rename Below _ _ _ _ => bB); (k_dflt (first
  | (refine' co8 _ _ _ _ _ _ _ _ _ _ _ _ _ 0 _ 0 0 0 _ _ _ 0 0 0 bB fF xX nN tT ?h0 ?_; (case h0 => assumption); intro h' tk' q' t' n' F' N'))); (try dsimp only)))
set_option pp.deepTerms false in
theorem wa1 : ∀ (w : World) (mean : ExcName → Option Value) (mg mb : Str → Option Value) (L a : Addr) (ccd : Value) (h₀ : Heap) (m0 : Str → Option Value) (news : List (Addr × Obj)) (s : Shared) (Q : Flow → Shared → Prop) (E : Value → Shared → Prop) (c r : Addr) (k : Nat) (x y z u : Int) (tx ty tz tu : Tok)
  (_ : Below callerA h₀ [] h₀) (_ : Fr h₀ L s.heap (fun y => if y = Str.ofString "row" then some (.none) else if y = Str.ofString "colour" then some (.int x tx) else m0 y)) (_ : (hd.heap_39 w.params).In h₀) (_ : News h₀ L s.heap (news)) (_ : Top hd.view_39 (looseW hd.view_39 []) mean mg mb h₀) (_ : 0 ≤ x)
  (_ : ∀ (h' : Heap) (tk' : Tok) (m' : Str → Option Value), m' (Str.ofString "found") = m0 (Str.ofString "found") → Fr h₀ L h' m' → News h₀ L h' news → Q .next { s with heap := h', toks := tk' }),
  wpAny (model Challenge.rw_ax6025_01.row.prog w) (callerA.deeper (lawEnv L a ccd)) (execs ((lawStmts 7).take 4) (lawEnv L a ccd)) Q E s := by
  w_on
  k_fill
  intros
  rename_i w mean mg mb L a ccd h₀ m0 news s Q E c r k x y z u tx ty tz tu B F X N T p0 hQ
  conv in execs _ _ => arg 1; whnf
  k_steps
  (try rename Fr _ _ _ _ => F9)
  (try rename News _ _ _ _ => N9)
  show wpAny _ _ (pure Flow.next) _ _ _
  refine wpAny_pure ?_
  refine hQ _ _ _ ?_ F9 (News.sub N9 ?_)
  · rfl
  · first | exact .refl _ | exact .cons _ (.refl _) | exact .cons _ (.cons _ (.refl _)) | exact .cons _ (.cons _ (.cons _ (.refl _))) | exact .cons _ (.cons _ (.cons _ (.cons _ (.refl _)))) | exact .cons _ (.cons _ (.cons _ (.cons _ (.cons _ (.refl _))))) | exact .cons _ (.cons _ (.cons _ (.cons _ (.cons _ (.cons _ (.refl _)))))) | exact .cons _ (.cons _ (.cons _ (.cons _ (.cons _ (.cons _ (.cons _ (.refl _))))))) | exact .cons _ (.cons _ (.cons _ (.cons _ (.cons _ (.cons _ (.cons _ (.cons _ (.refl _)))))))) | exact .cons _ (.cons _ (.cons _ (.cons _ (.cons _ (.cons _ (.cons _ (.cons _ (.cons _ (.refl _))))))))) | exact .cons _ (.cons _ (.cons _ (.cons _ (.cons _ (.cons _ (.cons _ (.cons _ (.cons _ (.cons _ (.refl _)))))))))) | exact .cons _ (.cons _ (.cons _ (.cons _ (.cons _ (.cons _ (.cons _ (.cons _ (.cons _ (.cons _ (.cons _ (.refl _))))))))))) | exact .cons _ (.cons _ (.cons _ (.cons _ (.cons _ (.cons _ (.cons _ (.cons _ (.cons _ (.cons _ (.cons _ (.cons _ (.refl _)))))))))))) | exact .cons _ (.cons _ (.cons _ (.cons _ (.cons _ (.cons _ (.cons _ (.cons _ (.cons _ (.cons _ (.cons _ (.cons _ (.cons _ (.refl _))))))))))))) | exact .cons _ (.cons _ (.cons _ (.cons _ (.cons _ (.cons _ (.cons _ (.cons _ (.cons _ (.cons _ (.cons _ (.cons _ (.cons _ (.cons _ (.refl _)))))))))))))) | exact .cons _ (.cons _ (.cons _ (.cons _ (.cons _ (.cons _ (.cons _ (.cons _ (.cons _ (.cons _ (.cons _ (.cons _ (.cons _ (.cons _ (.cons _ (.refl _)))))))))))))))
end Mine
end
section
open PySem PySem.W PySem.Calls PyProof.Rows
set_option Elab.async false
set_option maxRecDepth 100000
set_option maxHeartbeats 8000000
namespace Mine
local macro_rules | `(tactic| walk_at "call ref") => `(tactic| (k_here; kts_any; k_dflt (refine wpAny_call ?_; (refine' enterTry ?k1 ?k2 ?k3 ?k4 ?k5 ?kA ?kF ?kE ?k6 ?k7 ?k8 ?k9 ?kB ?_ ?c2 ?c3 ?c4 ?c5; (case kA => exact rfl); (case kF => exact rfl); (case kE => exact rfl); (case k2 => k_asm); (case k1 => k_asm); (case k3 => k_asm); (case k4 => k_asm); (case k5 => k_asm); (case k6 => k_is); (case k7 => k_is); (case k8 => k_room); (case k9 => first | exact binds_K (by k_in) rfl (by k_is) rfl rfl rfl | exact BindsTo.of_eq rfl | fail "no rule for these arguments"); (case kB => exact locs rfl); (case c2 => exact rfl); (case c3 => exact rfl); (case c4 => exact rfl); (case c5 => decide); k_whole; intro g' L' h' FG' F' N' B' X' T' D'; (try dsimp only); (try k_lift B'); (try k_fold)))))
theorem and_keepCo3 {a b : Prop} (ha : a) (hb : a → b) : a ∧ b := ⟨ha, hb ha⟩
local macro_rules | `(tactic| walk_at "And") => `(tactic| ((with_reducible show PySem.Str.length (_ ++ _) ≤ sizeLine ∧ _); refine and_keepCo3 ?a ?_; (case a => size_fits); intro hSz'))
local macro_rules | `(tactic| walk_at "joinParts") => `(tactic| ((try (with_reducible refine joinParts_nilE ?_)); (with_reducible show wpAny _ _ (joinParts _ []) _ _ _); (with_reducible refine joinParts_nil (hsz := ?hsz) ?_); (case hsz => with_reducible assumption)))
local macro_rules | `(tactic| walk_at "ite") => `(tactic| (k_here; refine ite_isFalse (by simp only [ne_eq, not_true_eq_false, decide_false]; done) ?_))

set_option pp.deepTerms false in
theorem co3 : ∀ (w : World) (mean : ExcName → Option Value) (mg mb : Str → Option Value) (L a : Addr) (ccd : Value) (h₀ : Heap) (m : Str → Option Value) (news : List (Addr × Obj)) (s : Shared) (Q : Value → Shared → Prop) (E : Value → Shared → Prop) (p : Addr) (x y z u : Int) (t0 ts tx ty tz tu : Tok)
  (_ : Below callerA h₀ [] h₀) (_ : Fr h₀ L s.heap m) (_ : (hd.heap_39 w.params).In h₀) (_ : News h₀ L s.heap ((p, ({ cls := .type "tuple", data := .seq [Value.int x tx, Value.int y ty, Value.int z tz].toArray } : Obj)) :: news)) (_ : Top hd.view_39 (looseW hd.view_39 []) mean mg mb h₀) 
  (_ : ∀ (h' : Heap) (tk' : Tok), Fr h₀ L h' m → News h₀ L h' ((p, ({ cls := .type "tuple", data := .seq [Value.int x tx, Value.int y ty, Value.int z tz].toArray } : Obj)) :: news) → Q .none { s with heap := h', toks := tk' }),
  wpAny (model Challenge.rw_ax6025_01.row.prog w) (callerA.deeper (lawEnv L a ccd)) (call (.ref 105) [.int 1 t0, .ref p, .bool true, .str (Str.ofString "transparent") ts]) Q E s := by
  w_on
  k_fill
  intros
  k_steps
  all_goals ((with_reducible rename ∀ (h' : Heap) (tk' : Tok), _ → _ → _ => hQ); first
    | exact hQ _ _ (by assumption) (by assumption)
    | (exfalso; omega)
    | (exfalso; simp_all; done)
    | (exfalso; simp_all; omega))

end Mine
end
section
open PySem PySem.W PySem.Calls PyProof.Rows
set_option Elab.async false
set_option maxRecDepth 100000
set_option maxHeartbeats 8000000
namespace Mine
local macro_rules | `(tactic| walk_at "call ref") => `(tactic| (k_here; kts_any; k_dflt (refine wpAny_call ?_; (refine' enterTry ?k1 ?k2 ?k3 ?k4 ?k5 ?kA ?kF ?kE ?k6 ?k7 ?k8 ?k9 ?kB ?_ ?c2 ?c3 ?c4 ?c5; (case kA => exact rfl); (case kF => exact rfl); (case kE => exact rfl); (case k2 => k_asm); (case k1 => k_asm); (case k3 => k_asm); (case k4 => k_asm); (case k5 => k_asm); (case k6 => k_is); (case k7 => k_is); (case k8 => k_room); (case k9 => first | exact binds_K (by k_in) rfl (by k_is) rfl rfl rfl | exact BindsTo.of_eq rfl | fail "no rule for these arguments"); (case kB => exact locs rfl); (case c2 => exact rfl); (case c3 => exact rfl); (case c4 => exact rfl); (case c5 => decide); k_whole; intro g' L' h' FG' F' N' B' X' T' D'; (try dsimp only); (try k_lift B'); (try k_fold)))))
theorem and_keepDo5 {a b : Prop} (ha : a) (hb : a → b) : a ∧ b := ⟨ha, hb ha⟩
local macro_rules | `(tactic| walk_at "And") => `(tactic| ((with_reducible show PySem.Str.length (_ ++ _) ≤ sizeLine ∧ _); refine and_keepDo5 ?a ?_; (case a => size_fits); intro hSz'))
local macro_rules | `(tactic| walk_at "joinParts") => `(tactic| ((try (with_reducible refine joinParts_nilE ?_)); (with_reducible show wpAny _ _ (joinParts _ []) _ _ _); (with_reducible refine joinParts_nil (hsz := ?hsz) ?_); (case hsz => with_reducible assumption)))
local macro_rules | `(tactic| walk_at "ite") => `(tactic| (k_here; refine ite_isFalse (by simp only [ne_eq, not_true_eq_false, decide_false]; done) ?_))

set_option pp.deepTerms false in
theorem do5 : ∀ (w : World) (mean : ExcName → Option Value) (mg mb : Str → Option Value) (L a : Addr) (ccd : Value) (h₀ : Heap) (m : Str → Option Value) (news : List (Addr × Obj)) (s : Shared) (Q : Value → Shared → Prop) (E : Value → Shared → Prop) (p : Addr) (x y z u : Int) (t0 ts tx ty tz tu : Tok)
  (_ : Below callerA h₀ [] h₀) (_ : Fr h₀ L s.heap m) (_ : (hd.heap_39 w.params).In h₀) (_ : News h₀ L s.heap ((p, ({ cls := .type "tuple", data := .seq [Value.int 1 tx, Value.int (-1) ty, Value.int 3 tz].toArray } : Obj)) :: news)) (_ : Top hd.view_39 (looseW hd.view_39 []) mean mg mb h₀) 
  (_ : ∀ (h' : Heap) (tk' : Tok), Fr h₀ L h' m → News h₀ L h' ((p, ({ cls := .type "tuple", data := .seq [Value.int 1 tx, Value.int (-1) ty, Value.int 3 tz].toArray } : Obj)) :: news) → Q .none { s with heap := h', toks := tk' }),
  wpAny (model Challenge.rw_ax6025_01.row.prog w) (callerA.deeper (lawEnv L a ccd)) (call (.ref 105) [.int 1 t0, .ref p, .bool false, .str (Str.ofString "background") ts]) Q E s := by
  w_on
  k_fill
  intros
  k_steps
  all_goals ((with_reducible rename ∀ (h' : Heap) (tk' : Tok), _ → _ → _ => hQ); first
    | exact hQ _ _ (by assumption) (by assumption)
    | (exfalso; omega)
    | (exfalso; simp_all; done)
    | (exfalso; simp_all; omega))

end Mine
end
section
open PySem PySem.W PySem.Calls PyProof.Rows
set_option Elab.async false
set_option maxRecDepth 100000
set_option maxHeartbeats 2000000
namespace Mine
local macro_rules | `(tactic| walk_at "eval ListComp") => `(tactic| (k_here; (with_reducible rename Fr _ _ _ _ => fF); (k_dflt (refine' compF badV fF ?hA ?hclos ?hcell ?hkind ?hnames ?hx ?_ ?hs ?hd; (case hA => exact rfl); (case hclos => exact closureFor_none (by decide)); (case hcell => decide); (case hkind => exact rfl); (case hnames => decide); (case hx => exact rfl); (case hs => intro _; exact rfl); (case hd => decide)))))
local macro_rules | `(tactic| walk_at "eval Name") => `(tactic| ((with_reducible rename Heap.Ns _ _ _ => nsH); (with_reducible rename _ = some _ => nsE); (k_dflt (refine' wpAny_Name (wpAny_loadName_local ?k1 ?k2 nsH nsE ?_) ?k3; (case k1 => exact rfl); (case k2 => exact rfl); (case k3 => decide)))))
local macro_rules | `(tactic| walk_at "call ref") => `(tactic| (k_here; (with_reducible rename News _ _ _ _ => nN); (with_reducible rename Fr _ _ _ _ => fF); (with_reducible rename Frag.In _ _ => xX); (with_reducible rename Top _ _ _ _ _ _ => tT); (with_reducible rename Below _ _ _ _ => bB); (k_dflt (first
  | (refine' do5 _ _ _ _ _ _ _ _ _ _ _ _ _ _ 0 0 0 0 _ _ _ _ _ 0 bB fF xX (News.cons_mem nN (by first | exact .head _ | exact .tail _ (.head _) | exact .tail _ (.tail _ (.head _)) | exact .tail _ (.tail _ (.tail _ (.head _))) | exact .tail _ (.tail _ (.tail _ (.tail _ (.head _)))) | exact .tail _ (.tail _ (.tail _ (.tail _ (.tail _ (.head _))))) | exact .tail _ (.tail _ (.tail _ (.tail _ (.tail _ (.tail _ (.head _)))))) | exact .tail _ (.tail _ (.tail _ (.tail _ (.tail _ (.tail _ (.tail _ (.head _))))))))) tT  ?_; intro h' tk' F' N'; replace N' := News.drop1 N')
  | (refine' co3 _ _ _ _ _ _ _ _ _ _ _ _ _ _ _ _ _ 0 _ _ _ _ _ 0 bB fF xX (News.cons_mem nN (by first | exact .head _ | exact .tail _ (.head _) | exact .tail _ (.tail _ (.head _)) | exact .tail _ (.tail _ (.tail _ (.head _))) | exact .tail _ (.tail _ (.tail _ (.tail _ (.head _)))) | exact .tail _ (.tail _ (.tail _ (.tail _ (.tail _ (.head _))))) | exact .tail _ (.tail _ (.tail _ (.tail _ (.tail _ (.tail _ (.head _)))))) | exact .tail _ (.tail _ (.tail _ (.tail _ (.tail _ (.tail _ (.tail _ (.head _))))))))) tT  ?_; intro h' tk' F' N'; replace N' := News.drop1 N'))); (try dsimp only)))
set_option pp.deepTerms false in
theorem wa6 : ∀ (w : World) (mean : ExcName → Option Value) (mg mb : Str → Option Value) (L a : Addr) (ccd : Value) (h₀ : Heap) (m0 : Str → Option Value) (news : List (Addr × Obj)) (s : Shared) (Q : Flow → Shared → Prop) (E : Value → Shared → Prop) (c r : Addr) (k : Nat) (x y z u : Int) (tx ty tz tu : Tok)
  (_ : Below callerA h₀ [] h₀) (_ : Fr h₀ L s.heap (fun y => if y = Str.ofString "row" then some (.ref r) else if y = Str.ofString "colour" then some (.ref c) else m0 y)) (_ : (hd.heap_39 w.params).In h₀) (_ : News h₀ L s.heap ((c, ({ cls := .type "tuple", data := .seq [Value.int 1 tx, Value.int (-1) ty, Value.int 3 tz].toArray } : Obj)) :: (r, listOf [Value.int 1 tx, Value.int (-1) ty, Value.int 3 tz].toArray k) :: news)) (_ : Top hd.view_39 (looseW hd.view_39 []) mean mg mb h₀) 
  (_ : ∀ (h' : Heap) (tk' : Tok) (m' : Str → Option Value), m' (Str.ofString "found") = m0 (Str.ofString "found") → Fr h₀ L h' m' → News h₀ L h' news → Q .next { s with heap := h', toks := tk' }),
  wpAny (model Challenge.rw_ax6025_01.row.prog w) (callerA.deeper (lawEnv L a ccd)) (execs ((lawStmts 7).take 4) (lawEnv L a ccd)) Q E s := by
  w_on
  k_fill
  intros
  rename_i w mean mg mb L a ccd h₀ m0 news s Q E c r k x y z u tx ty tz tu B F X N T  hQ
  conv in execs _ _ => arg 1; whnf
  k_steps
  (try rename Fr _ _ _ _ => F9)
  (try rename News _ _ _ _ => N9)
  refine ⟨_, [_, _, _], _, _, rfl, ?hsz, F9, N9, .tail _ (.head _), ?step, ?done⟩
  case hsz => exact Nat.le_of_ble_eq_true rfl
  case step =>
    intro v ys C D oC own k h tk E' mC hv F3 N3 hNs hm hCD
    clear F9 N9
    simp only [List.mem_cons, List.not_mem_nil, or_false] at hv
    rcases hv with rfl | rfl | rfl
    all_goals k_steps
    all_goals first
      | exact F3
      | exact N3
      | rfl
      | exact (decide_eq_false (by omega)).symm
      | exact (decide_eq_true (by omega)).symm
  case done =>
    intro D k h' tk F3 N3
    clear F9 N9
    have hflt : List.filter badV [Value.int 1 tx, Value.int (-1) ty, Value.int 3 tz] = [Value.int (-1) ty] := rfl
    rw [hflt] at N3
    k_steps
    (try rename Fr _ _ _ _ => F9)
    (try rename News _ _ _ _ => N9)
    show wpAny _ _ (pure Flow.next) _ _ _
    refine wpAny_pure ?_
    refine hQ _ _ _ ?_ F9 (News.sub N9 ?_)
    · rfl
    · first | exact .refl _ | exact .cons _ (.refl _) | exact .cons _ (.cons _ (.refl _)) | exact .cons _ (.cons _ (.cons _ (.refl _))) | exact .cons _ (.cons _ (.cons _ (.cons _ (.refl _)))) | exact .cons _ (.cons _ (.cons _ (.cons _ (.cons _ (.refl _))))) | exact .cons _ (.cons _ (.cons _ (.cons _ (.cons _ (.cons _ (.refl _)))))) | exact .cons _ (.cons _ (.cons _ (.cons _ (.cons _ (.cons _ (.cons _ (.refl _))))))) | exact .cons _ (.cons _ (.cons _ (.cons _ (.cons _ (.cons _ (.cons _ (.cons _ (.refl _)))))))) | exact .cons _ (.cons _ (.cons _ (.cons _ (.cons _ (.cons _ (.cons _ (.cons _ (.cons _ (.refl _))))))))) | exact .cons _ (.cons _ (.cons _ (.cons _ (.cons _ (.cons _ (.cons _ (.cons _ (.cons _ (.cons _ (.refl _)))))))))) | exact .cons _ (.cons _ (.cons _ (.cons _ (.cons _ (.cons _ (.cons _ (.cons _ (.cons _ (.cons _ (.cons _ (.refl _))))))))))) | exact .cons _ (.cons _ (.cons _ (.cons _ (.cons _ (.cons _ (.cons _ (.cons _ (.cons _ (.cons _ (.cons _ (.cons _ (.refl _)))))))))))) | exact .cons _ (.cons _ (.cons _ (.cons _ (.cons _ (.cons _ (.cons _ (.cons _ (.cons _ (.cons _ (.cons _ (.cons _ (.cons _ (.refl _))))))))))))) | exact .cons _ (.cons _ (.cons _ (.cons _ (.cons _ (.cons _ (.cons _ (.cons _ (.cons _ (.cons _ (.cons _ (.cons _ (.cons _ (.cons _ (.refl _)))))))))))))) | exact .cons _ (.cons _ (.cons _ (.cons _ (.cons _ (.cons _ (.cons _ (.cons _ (.cons _ (.cons _ (.cons _ (.cons _ (.cons _ (.cons _ (.cons _ (.refl _)))))))))))))))
end Mine
end
section
open PySem PySem.W PySem.Calls PyProof.Rows
set_option Elab.async false
set_option maxRecDepth 100000
set_option maxHeartbeats 8000000
namespace Mine
local macro_rules | `(tactic| walk_at "call ref") => `(tactic| (k_here; kts_any; k_dflt (refine wpAny_call ?_; (refine' enterTry ?k1 ?k2 ?k3 ?k4 ?k5 ?kA ?kF ?kE ?k6 ?k7 ?k8 ?k9 ?kB ?_ ?c2 ?c3 ?c4 ?c5; (case kA => exact rfl); (case kF => exact rfl); (case kE => exact rfl); (case k2 => k_asm); (case k1 => k_asm); (case k3 => k_asm); (case k4 => k_asm); (case k5 => k_asm); (case k6 => k_is); (case k7 => k_is); (case k8 => k_room); (case k9 => first | exact binds_K (by k_in) rfl (by k_is) rfl rfl rfl | exact BindsTo.of_eq rfl | fail "no rule for these arguments"); (case kB => exact locs rfl); (case c2 => exact rfl); (case c3 => exact rfl); (case c4 => exact rfl); (case c5 => decide); k_whole; intro g' L' h' FG' F' N' B' X' T' D'; (try dsimp only); (try k_lift B'); (try k_fold)))))
theorem and_keepCo5 {a b : Prop} (ha : a) (hb : a → b) : a ∧ b := ⟨ha, hb ha⟩
local macro_rules | `(tactic| walk_at "And") => `(tactic| ((with_reducible show PySem.Str.length (_ ++ _) ≤ sizeLine ∧ _); refine and_keepCo5 ?a ?_; (case a => size_fits); intro hSz'))
local macro_rules | `(tactic| walk_at "joinParts") => `(tactic| ((try (with_reducible refine joinParts_nilE ?_)); (with_reducible show wpAny _ _ (joinParts _ []) _ _ _); (with_reducible refine joinParts_nil (hsz := ?hsz) ?_); (case hsz => with_reducible assumption)))
local macro_rules | `(tactic| walk_at "ite") => `(tactic| (k_here; refine ite_isFalse (by simp only [ne_eq, not_true_eq_false, decide_false]; done) ?_))

set_option pp.deepTerms false in
theorem co5 : ∀ (w : World) (mean : ExcName → Option Value) (mg mb : Str → Option Value) (L a : Addr) (ccd : Value) (h₀ : Heap) (m : Str → Option Value) (news : List (Addr × Obj)) (s : Shared) (Q : Value → Shared → Prop) (E : Value → Shared → Prop) (p : Addr) (x y z u : Int) (t0 ts tx ty tz tu : Tok)
  (_ : Below callerA h₀ [] h₀) (_ : Fr h₀ L s.heap m) (_ : (hd.heap_39 w.params).In h₀) (_ : News h₀ L s.heap ((p, ({ cls := .type "tuple", data := .seq [Value.int (-1) tx].toArray } : Obj)) :: news)) (_ : Top hd.view_39 (looseW hd.view_39 []) mean mg mb h₀) 
  (_ : ∀ (h' : Heap) (tk' : Tok), Fr h₀ L h' m → News h₀ L h' ((p, ({ cls := .type "tuple", data := .seq [Value.int (-1) tx].toArray } : Obj)) :: news) → Q .none { s with heap := h', toks := tk' }),
  wpAny (model Challenge.rw_ax6025_01.row.prog w) (callerA.deeper (lawEnv L a ccd)) (call (.ref 105) [.int 1 t0, .ref p, .bool true, .str (Str.ofString "transparent") ts]) Q E s := by
  w_on
  k_fill
  intros
  k_steps
  all_goals ((with_reducible rename ∀ (h' : Heap) (tk' : Tok), _ → _ → _ => hQ); first
    | exact hQ _ _ (by assumption) (by assumption)
    | (exfalso; omega)
    | (exfalso; simp_all; done)
    | (exfalso; simp_all; omega))

end Mine
end
section
open PySem PySem.W PySem.Calls PyProof.Rows
set_option Elab.async false
set_option maxRecDepth 100000
set_option maxHeartbeats 8000000
namespace Mine
local macro_rules | `(tactic| walk_at "call ref") => `(tactic| (k_here; kts_any; k_dflt (refine wpAny_call ?_; (refine' enterTry ?k1 ?k2 ?k3 ?k4 ?k5 ?kA ?kF ?kE ?k6 ?k7 ?k8 ?k9 ?kB ?_ ?c2 ?c3 ?c4 ?c5; (case kA => exact rfl); (case kF => exact rfl); (case kE => exact rfl); (case k2 => k_asm); (case k1 => k_asm); (case k3 => k_asm); (case k4 => k_asm); (case k5 => k_asm); (case k6 => k_is); (case k7 => k_is); (case k8 => k_room); (case k9 => first | exact binds_K (by k_in) rfl (by k_is) rfl rfl rfl | exact BindsTo.of_eq rfl | fail "no rule for these arguments"); (case kB => exact locs rfl); (case c2 => exact rfl); (case c3 => exact rfl); (case c4 => exact rfl); (case c5 => decide); k_whole; intro g' L' h' FG' F' N' B' X' T' D'; (try dsimp only); (try k_lift B'); (try k_fold)))))
theorem and_keepDo1 {a b : Prop} (ha : a) (hb : a → b) : a ∧ b := ⟨ha, hb ha⟩
local macro_rules | `(tactic| walk_at "And") => `(tactic| ((with_reducible show PySem.Str.length (_ ++ _) ≤ sizeLine ∧ _); refine and_keepDo1 ?a ?_; (case a => size_fits); intro hSz'))
local macro_rules | `(tactic| walk_at "joinParts") => `(tactic| ((try (with_reducible refine joinParts_nilE ?_)); (with_reducible show wpAny _ _ (joinParts _ []) _ _ _); (with_reducible refine joinParts_nil (hsz := ?hsz) ?_); (case hsz => with_reducible assumption)))
local macro_rules | `(tactic| walk_at "ite") => `(tactic| (k_here; refine ite_isFalse (by simp only [ne_eq, not_true_eq_false, decide_false]; done) ?_))

set_option pp.deepTerms false in
theorem do1 : ∀ (w : World) (mean : ExcName → Option Value) (mg mb : Str → Option Value) (L a : Addr) (ccd : Value) (h₀ : Heap) (m : Str → Option Value) (news : List (Addr × Obj)) (s : Shared) (Q : Value → Shared → Prop) (E : Value → Shared → Prop) (p : Addr) (x y z u : Int) (t0 ts tx ty tz tu : Tok)
  (_ : Below callerA h₀ [] h₀) (_ : Fr h₀ L s.heap m) (_ : (hd.heap_39 w.params).In h₀) (_ : News h₀ L s.heap ((p, ({ cls := .type "tuple", data := .seq [Value.int x tx].toArray } : Obj)) :: news)) (_ : Top hd.view_39 (looseW hd.view_39 []) mean mg mb h₀) 
  (_ : ∀ (h' : Heap) (tk' : Tok), Fr h₀ L h' m → News h₀ L h' ((p, ({ cls := .type "tuple", data := .seq [Value.int x tx].toArray } : Obj)) :: news) → Q .none { s with heap := h', toks := tk' }),
  wpAny (model Challenge.rw_ax6025_01.row.prog w) (callerA.deeper (lawEnv L a ccd)) (call (.ref 105) [.int 1 t0, .ref p, .bool false, .str (Str.ofString "background") ts]) Q E s := by
  w_on
  k_fill
  intros
  k_steps
  all_goals ((with_reducible rename ∀ (h' : Heap) (tk' : Tok), _ → _ → _ => hQ); first
    | exact hQ _ _ (by assumption) (by assumption)
    | (exfalso; omega)
    | (exfalso; simp_all; done)
    | (exfalso; simp_all; omega))

end Mine
end
section
open PySem PySem.W PySem.Calls PyProof.Rows
set_option Elab.async false
set_option maxRecDepth 100000
set_option maxHeartbeats 2000000
namespace Mine
local macro_rules | `(tactic| walk_at "eval ListComp") => `(tactic| (k_here; (with_reducible rename Fr _ _ _ _ => fF); (k_dflt (refine' compF badV fF ?hA ?hclos ?hcell ?hkind ?hnames ?hx ?_ ?hs ?hd; (case hA => exact rfl); (case hclos => exact closureFor_none (by decide)); (case hcell => decide); (case hkind => exact rfl); (case hnames => decide); (case hx => exact rfl); (case hs => intro _; exact rfl); (case hd => decide)))))
local macro_rules | `(tactic| walk_at "eval Name") => `(tactic| ((with_reducible rename Heap.Ns _ _ _ => nsH); (with_reducible rename _ = some _ => nsE); (k_dflt (refine' wpAny_Name (wpAny_loadName_local ?k1 ?k2 nsH nsE ?_) ?k3; (case k1 => exact rfl); (case k2 => exact rfl); (case k3 => decide)))))
local macro_rules | `(tactic| walk_at "call ref") => `(tactic| (k_here; (with_reducible rename News _ _ _ _ => nN); (with_reducible rename Fr _ _ _ _ => fF); (with_reducible rename Frag.In _ _ => xX); (with_reducible rename Top _ _ _ _ _ _ => tT); (with_reducible rename Below _ _ _ _ => bB); (k_dflt (first
  | (refine' co5 _ _ _ _ _ _ _ _ _ _ _ _ _ _ 0 0 0 0 _ _ _ 0 0 0 bB fF xX (News.cons_mem nN (by first | exact .head _ | exact .tail _ (.head _) | exact .tail _ (.tail _ (.head _)) | exact .tail _ (.tail _ (.tail _ (.head _))) | exact .tail _ (.tail _ (.tail _ (.tail _ (.head _)))) | exact .tail _ (.tail _ (.tail _ (.tail _ (.tail _ (.head _))))) | exact .tail _ (.tail _ (.tail _ (.tail _ (.tail _ (.tail _ (.head _)))))) | exact .tail _ (.tail _ (.tail _ (.tail _ (.tail _ (.tail _ (.tail _ (.head _))))))))) tT  ?_; intro h' tk' F' N'; replace N' := News.drop1 N')
  | (refine' do1 _ _ _ _ _ _ _ _ _ _ _ _ _ _ _ 0 0 0 _ _ _ 0 0 0 bB fF xX (News.cons_mem nN (by first | exact .head _ | exact .tail _ (.head _) | exact .tail _ (.tail _ (.head _)) | exact .tail _ (.tail _ (.tail _ (.head _))) | exact .tail _ (.tail _ (.tail _ (.tail _ (.head _)))) | exact .tail _ (.tail _ (.tail _ (.tail _ (.tail _ (.head _))))) | exact .tail _ (.tail _ (.tail _ (.tail _ (.tail _ (.tail _ (.head _)))))) | exact .tail _ (.tail _ (.tail _ (.tail _ (.tail _ (.tail _ (.tail _ (.head _))))))))) tT  ?_; intro h' tk' F' N'; replace N' := News.drop1 N'))); (try dsimp only)))
set_option pp.deepTerms false in
theorem wa7 : ∀ (w : World) (mean : ExcName → Option Value) (mg mb : Str → Option Value) (L a : Addr) (ccd : Value) (h₀ : Heap) (m0 : Str → Option Value) (news : List (Addr × Obj)) (s : Shared) (Q : Flow → Shared → Prop) (E : Value → Shared → Prop) (c r : Addr) (k : Nat) (x y z u : Int) (tx ty tz tu : Tok)
  (_ : Below callerA h₀ [] h₀) (_ : Fr h₀ L s.heap (fun y => if y = Str.ofString "row" then some (.ref r) else if y = Str.ofString "colour" then some (.ref c) else m0 y)) (_ : (hd.heap_39 w.params).In h₀) (_ : News h₀ L s.heap ((c, ({ cls := .type "tuple", data := .seq [Value.int (-1) tx].toArray } : Obj)) :: (r, listOf [Value.int (-1) tx].toArray k) :: news)) (_ : Top hd.view_39 (looseW hd.view_39 []) mean mg mb h₀) 
  (_ : ∀ (h' : Heap) (tk' : Tok) (m' : Str → Option Value), m' (Str.ofString "found") = m0 (Str.ofString "found") → Fr h₀ L h' m' → News h₀ L h' news → Q .next { s with heap := h', toks := tk' }),
  wpAny (model Challenge.rw_ax6025_01.row.prog w) (callerA.deeper (lawEnv L a ccd)) (execs ((lawStmts 7).take 4) (lawEnv L a ccd)) Q E s := by
  w_on
  k_fill
  intros
  rename_i w mean mg mb L a ccd h₀ m0 news s Q E c r k x y z u tx ty tz tu B F X N T  hQ
  conv in execs _ _ => arg 1; whnf
  k_steps
  (try rename Fr _ _ _ _ => F9)
  (try rename News _ _ _ _ => N9)
  refine ⟨_, [_], _, _, rfl, ?hsz, F9, N9, .tail _ (.head _), ?step, ?done⟩
  case hsz => exact Nat.le_of_ble_eq_true rfl
  case step =>
    intro v ys C D oC own k h tk E' mC hv F3 N3 hNs hm hCD
    clear F9 N9
    simp only [List.mem_cons, List.not_mem_nil, or_false] at hv
    subst hv
    all_goals k_steps
    all_goals first
      | exact F3
      | exact N3
      | rfl
      | exact (decide_eq_false (by omega)).symm
      | exact (decide_eq_true (by omega)).symm
  case done =>
    intro D k h' tk F3 N3
    clear F9 N9
    have hflt : List.filter badV [Value.int (-1) tx] = [Value.int (-1) tx] := rfl
    rw [hflt] at N3
    k_steps
    (try rename Fr _ _ _ _ => F9)
    (try rename News _ _ _ _ => N9)
    show wpAny _ _ (pure Flow.next) _ _ _
    refine wpAny_pure ?_
    refine hQ _ _ _ ?_ F9 (News.sub N9 ?_)
    · rfl
    · first | exact .refl _ | exact .cons _ (.refl _) | exact .cons _ (.cons _ (.refl _)) | exact .cons _ (.cons _ (.cons _ (.refl _))) | exact .cons _ (.cons _ (.cons _ (.cons _ (.refl _)))) | exact .cons _ (.cons _ (.cons _ (.cons _ (.cons _ (.refl _))))) | exact .cons _ (.cons _ (.cons _ (.cons _ (.cons _ (.cons _ (.refl _)))))) | exact .cons _ (.cons _ (.cons _ (.cons _ (.cons _ (.cons _ (.cons _ (.refl _))))))) | exact .cons _ (.cons _ (.cons _ (.cons _ (.cons _ (.cons _ (.cons _ (.cons _ (.refl _)))))))) | exact .cons _ (.cons _ (.cons _ (.cons _ (.cons _ (.cons _ (.cons _ (.cons _ (.cons _ (.refl _))))))))) | exact .cons _ (.cons _ (.cons _ (.cons _ (.cons _ (.cons _ (.cons _ (.cons _ (.cons _ (.cons _ (.refl _)))))))))) | exact .cons _ (.cons _ (.cons _ (.cons _ (.cons _ (.cons _ (.cons _ (.cons _ (.cons _ (.cons _ (.cons _ (.refl _))))))))))) | exact .cons _ (.cons _ (.cons _ (.cons _ (.cons _ (.cons _ (.cons _ (.cons _ (.cons _ (.cons _ (.cons _ (.cons _ (.refl _)))))))))))) | exact .cons _ (.cons _ (.cons _ (.cons _ (.cons _ (.cons _ (.cons _ (.cons _ (.cons _ (.cons _ (.cons _ (.cons _ (.cons _ (.refl _))))))))))))) | exact .cons _ (.cons _ (.cons _ (.cons _ (.cons _ (.cons _ (.cons _ (.cons _ (.cons _ (.cons _ (.cons _ (.cons _ (.cons _ (.cons _ (.refl _)))))))))))))) | exact .cons _ (.cons _ (.cons _ (.cons _ (.cons _ (.cons _ (.cons _ (.cons _ (.cons _ (.cons _ (.cons _ (.cons _ (.cons _ (.cons _ (.cons _ (.refl _)))))))))))))))
end Mine
end
section
open PySem PySem.W PySem.Calls PyProof.Rows
set_option Elab.async false
set_option maxRecDepth 100000
set_option maxHeartbeats 8000000
namespace Mine
local macro_rules | `(tactic| walk_at "call ref") => `(tactic| (k_here; kts_any; k_dflt (refine wpAny_call ?_; (refine' enterTry ?k1 ?k2 ?k3 ?k4 ?k5 ?kA ?kF ?kE ?k6 ?k7 ?k8 ?k9 ?kB ?_ ?c2 ?c3 ?c4 ?c5; (case kA => exact rfl); (case kF => exact rfl); (case kE => exact rfl); (case k2 => k_asm); (case k1 => k_asm); (case k3 => k_asm); (case k4 => k_asm); (case k5 => k_asm); (case k6 => k_is); (case k7 => k_is); (case k8 => k_room); (case k9 => first | exact binds_K (by k_in) rfl (by k_is) rfl rfl rfl | exact BindsTo.of_eq rfl | fail "no rule for these arguments"); (case kB => exact locs rfl); (case c2 => exact rfl); (case c3 => exact rfl); (case c4 => exact rfl); (case c5 => decide); k_whole; intro g' L' h' FG' F' N' B' X' T' D'; (try dsimp only); (try k_lift B'); (try k_fold)))))
theorem and_keepCo6 {a b : Prop} (ha : a) (hb : a → b) : a ∧ b := ⟨ha, hb ha⟩
local macro_rules | `(tactic| walk_at "And") => `(tactic| ((with_reducible show PySem.Str.length (_ ++ _) ≤ sizeLine ∧ _); refine and_keepCo6 ?a ?_; (case a => size_fits); intro hSz'))
local macro_rules | `(tactic| walk_at "joinParts") => `(tactic| ((try (with_reducible refine joinParts_nilE ?_)); (with_reducible show wpAny _ _ (joinParts _ []) _ _ _); (with_reducible refine joinParts_nil (hsz := ?hsz) ?_); (case hsz => with_reducible assumption)))
local macro_rules | `(tactic| walk_at "ite") => `(tactic| (k_here; refine ite_isFalse (by simp only [ne_eq, not_true_eq_false, decide_false]; done) ?_))

set_option pp.deepTerms false in
theorem co6 : ∀ (w : World) (mean : ExcName → Option Value) (mg mb : Str → Option Value) (L a : Addr) (ccd : Value) (h₀ : Heap) (m : Str → Option Value) (news : List (Addr × Obj)) (s : Shared) (Q : Value → Shared → Prop) (E : Value → Shared → Prop) (p : Addr) (x y z u : Int) (t0 ts tx ty tz tu : Tok)
  (_ : Below callerA h₀ [] h₀) (_ : Fr h₀ L s.heap m) (_ : (hd.heap_39 w.params).In h₀) (_ : News h₀ L s.heap ((p, ({ cls := .type "tuple", data := .seq [Value.int 2 tx, Value.str (Str.ofString "x") ty, Value.int 3 tz].toArray } : Obj)) :: news)) (_ : Top hd.view_39 (looseW hd.view_39 []) mean mg mb h₀) 
  (_ : ∀ (h' : Heap) (tk' : Tok), Fr h₀ L h' m → News h₀ L h' ((p, ({ cls := .type "tuple", data := .seq [Value.int 2 tx, Value.str (Str.ofString "x") ty, Value.int 3 tz].toArray } : Obj)) :: news) → Q .none { s with heap := h', toks := tk' }),
  wpAny (model Challenge.rw_ax6025_01.row.prog w) (callerA.deeper (lawEnv L a ccd)) (call (.ref 105) [.int 1 t0, .ref p, .bool true, .str (Str.ofString "transparent") ts]) Q E s := by
  w_on
  k_fill
  intros
  k_steps
  all_goals ((with_reducible rename ∀ (h' : Heap) (tk' : Tok), _ → _ → _ => hQ); first
    | exact hQ _ _ (by assumption) (by assumption)
    | (exfalso; omega)
    | (exfalso; simp_all; done)
    | (exfalso; simp_all; omega))

end Mine
end
section
open PySem PySem.W PySem.Calls PyProof.Rows
set_option Elab.async false
set_option maxRecDepth 100000
set_option maxHeartbeats 2000000
namespace Mine
local macro_rules | `(tactic| walk_at "eval ListComp") => `(tactic| (k_here; (with_reducible rename Fr _ _ _ _ => fF); (k_dflt (refine' compF badV fF ?hA ?hclos ?hcell ?hkind ?hnames ?hx ?_ ?hs ?hd; (case hA => exact rfl); (case hclos => exact closureFor_none (by decide)); (case hcell => decide); (case hkind => exact rfl); (case hnames => decide); (case hx => exact rfl); (case hs => intro _; exact rfl); (case hd => decide)))))
local macro_rules | `(tactic| walk_at "eval Name") => `(tactic| ((with_reducible rename Heap.Ns _ _ _ => nsH); (with_reducible rename _ = some _ => nsE); (k_dflt (refine' wpAny_Name (wpAny_loadName_local ?k1 ?k2 nsH nsE ?_) ?k3; (case k1 => exact rfl); (case k2 => exact rfl); (case k3 => decide)))))
local macro_rules | `(tactic| walk_at "call ref") => `(tactic| (k_here; (with_reducible rename News _ _ _ _ => nN); (with_reducible rename Fr _ _ _ _ => fF); (with_reducible rename Frag.In _ _ => xX); (with_reducible rename Top _ _ _ _ _ _ => tT); (with_reducible rename Below _ _ _ _ => bB); (k_dflt (first
  | (refine' co6 _ _ _ _ _ _ _ _ _ _ _ _ _ _ 0 0 0 0 _ _ _ _ _ 0 bB fF xX (News.cons_mem nN (by first | exact .head _ | exact .tail _ (.head _) | exact .tail _ (.tail _ (.head _)) | exact .tail _ (.tail _ (.tail _ (.head _))) | exact .tail _ (.tail _ (.tail _ (.tail _ (.head _)))) | exact .tail _ (.tail _ (.tail _ (.tail _ (.tail _ (.head _))))) | exact .tail _ (.tail _ (.tail _ (.tail _ (.tail _ (.tail _ (.head _)))))) | exact .tail _ (.tail _ (.tail _ (.tail _ (.tail _ (.tail _ (.tail _ (.head _))))))))) tT  ?_; intro h' tk' F' N'; replace N' := News.drop1 N'))); (try dsimp only)))
set_option pp.deepTerms false in
theorem wa8 : ∀ (w : World) (mean : ExcName → Option Value) (mg mb : Str → Option Value) (L a : Addr) (ccd : Value) (h₀ : Heap) (m0 : Str → Option Value) (news : List (Addr × Obj)) (s : Shared) (Q : Flow → Shared → Prop) (E : Value → Shared → Prop) (c r : Addr) (k : Nat) (x y z u : Int) (tx ty tz tu : Tok)
  (_ : Below callerA h₀ [] h₀) (_ : Fr h₀ L s.heap (fun y => if y = Str.ofString "row" then some (.ref r) else if y = Str.ofString "colour" then some (.ref c) else m0 y)) (_ : (hd.heap_39 w.params).In h₀) (_ : News h₀ L s.heap ((c, ({ cls := .type "tuple", data := .seq [Value.int 2 tx, Value.str (Str.ofString "x") ty, Value.int 3 tz].toArray } : Obj)) :: (r, listOf [Value.int 2 tx, Value.str (Str.ofString "x") ty, Value.int 3 tz].toArray k) :: news)) (_ : Top hd.view_39 (looseW hd.view_39 []) mean mg mb h₀) 
  (_ : ∀ (h' : Heap) (tk' : Tok) (d : Addr) (n : Nat), Fr h₀ L h' (fun y => if y = Str.ofString "dues" then some (.ref d) else if y = Str.ofString "good" then some (.bool false) else if y = Str.ofString "row" then some (.ref r) else if y = Str.ofString "colour" then some (.ref c) else m0 y) → News h₀ L h' ((d, listOf [Value.none, Value.none].toArray n) :: (c, ({ cls := .type "tuple", data := .seq [Value.int 2 tx, Value.str (Str.ofString "x") ty, Value.int 3 tz].toArray } : Obj)) :: news) → Q .next { s with heap := h', toks := tk' }),
  wpAny (model Challenge.rw_ax6025_01.row.prog w) (callerA.deeper (lawEnv L a ccd)) (execs ((lawStmts 7).take 3) (lawEnv L a ccd)) Q E s := by
  w_on
  k_fill
  intros
  rename_i w mean mg mb L a ccd h₀ m0 news s Q E c r k x y z u tx ty tz tu B F X N T  hQ
  conv in execs _ _ => arg 1; whnf
  k_steps
  (try rename Fr _ _ _ _ => F9)
  (try rename News _ _ _ _ => N9)
  refine ⟨_, [_, _, _], _, _, rfl, ?hsz, F9, N9, .tail _ (.head _), ?step, ?done⟩
  case hsz => exact Nat.le_of_ble_eq_true rfl
  case step =>
    intro v ys C D oC own k h tk E' mC hv F3 N3 hNs hm hCD
    clear F9 N9
    simp only [List.mem_cons, List.not_mem_nil, or_false] at hv
    rcases hv with rfl | rfl | rfl
    all_goals k_steps
    all_goals first
      | exact F3
      | exact N3
      | rfl
      | exact (decide_eq_false (by omega)).symm
      | exact (decide_eq_true (by omega)).symm
  case done =>
    intro D k h' tk F3 N3
    clear F9 N9
    have hflt : List.filter badV [Value.int 2 tx, Value.str (Str.ofString "x") ty, Value.int 3 tz] = [Value.str (Str.ofString "x") ty] := rfl
    rw [hflt] at N3
    k_steps
    (try rename Fr _ _ _ _ => F9)
    (try rename News _ _ _ _ => N9)
    show wpAny _ _ (pure Flow.next) _ _ _
    refine wpAny_pure ?_
    exact hQ _ _ _ 0 F9 (News.sub N9 (.cons₂ _ (.cons _ (.cons _ (.cons₂ _ (.cons _ (.refl _)))))))
end Mine
end
section
open PySem PySem.W PySem.Calls PyProof.Rows
set_option Elab.async false
set_option maxRecDepth 100000
set_option maxHeartbeats 8000000
namespace Mine
local macro_rules | `(tactic| walk_at "call ref") => `(tactic| (k_here; kts_any; k_dflt (refine wpAny_call ?_; (refine' enterTry ?k1 ?k2 ?k3 ?k4 ?k5 ?kA ?kF ?kE ?k6 ?k7 ?k8 ?k9 ?kB ?_ ?c2 ?c3 ?c4 ?c5; (case kA => exact rfl); (case kF => exact rfl); (case kE => exact rfl); (case k2 => k_asm); (case k1 => k_asm); (case k3 => k_asm); (case k4 => k_asm); (case k5 => k_asm); (case k6 => k_is); (case k7 => k_is); (case k8 => k_room); (case k9 => first | exact binds_K (by k_in) rfl (by k_is) rfl rfl rfl | exact BindsTo.of_eq rfl | fail "no rule for these arguments"); (case kB => exact locs rfl); (case c2 => exact rfl); (case c3 => exact rfl); (case c4 => exact rfl); (case c5 => decide); k_whole; intro g' L' h' FG' F' N' B' X' T' D'; (try dsimp only); (try k_lift B'); (try k_fold)))))
theorem and_keepCo1 {a b : Prop} (ha : a) (hb : a → b) : a ∧ b := ⟨ha, hb ha⟩
local macro_rules | `(tactic| walk_at "And") => `(tactic| ((with_reducible show PySem.Str.length (_ ++ _) ≤ sizeLine ∧ _); refine and_keepCo1 ?a ?_; (case a => size_fits); intro hSz'))
local macro_rules | `(tactic| walk_at "joinParts") => `(tactic| ((try (with_reducible refine joinParts_nilE ?_)); (with_reducible show wpAny _ _ (joinParts _ []) _ _ _); (with_reducible refine joinParts_nil (hsz := ?hsz) ?_); (case hsz => with_reducible assumption)))
local macro_rules | `(tactic| walk_at "ite") => `(tactic| (k_here; refine ite_isFalse (by simp only [ne_eq, not_true_eq_false, decide_false]; done) ?_))

set_option pp.deepTerms false in
theorem co1 : ∀ (w : World) (mean : ExcName → Option Value) (mg mb : Str → Option Value) (L a : Addr) (ccd : Value) (h₀ : Heap) (m : Str → Option Value) (news : List (Addr × Obj)) (s : Shared) (Q : Value → Shared → Prop) (E : Value → Shared → Prop) (p : Addr) (x y z u : Int) (t0 ts tx ty tz tu : Tok)
  (_ : Below callerA h₀ [] h₀) (_ : Fr h₀ L s.heap m) (_ : (hd.heap_39 w.params).In h₀) (_ : News h₀ L s.heap ((p, ({ cls := .type "tuple", data := .seq [Value.int x tx].toArray } : Obj)) :: news)) (_ : Top hd.view_39 (looseW hd.view_39 []) mean mg mb h₀) (_ : 0 ≤ x)
  (_ : ∀ (h' : Heap) (tk' : Tok) (q : Addr) (n : Nat), Fr h₀ L h' m → News h₀ L h' ((q, listOf [Value.ref p].toArray n) :: (p, ({ cls := .type "tuple", data := .seq [Value.int x tx].toArray } : Obj)) :: news) → Q (.ref q) { s with heap := h', toks := tk' }),
  wpAny (model Challenge.rw_ax6025_01.row.prog w) (callerA.deeper (lawEnv L a ccd)) (call (.ref 105) [.int 1 t0, .ref p, .bool true, .str (Str.ofString "transparent") ts]) Q E s := by
  w_on
  k_fill
  intros
  k_steps
  all_goals ((with_reducible rename ∀ (h' : Heap) (tk' : Tok) (q : Addr) (n : Nat), _ → _ → _ => hQ); first
    | exact hQ _ _ _ _ (by assumption) (by assumption)
    | (exfalso; omega)
    | (exfalso; simp_all; done)
    | (exfalso; simp_all; omega))

end Mine
end
section
open PySem PySem.W PySem.Calls PyProof.Rows
set_option Elab.async false
set_option maxRecDepth 100000
set_option maxHeartbeats 2000000
namespace Mine
local macro_rules | `(tactic| walk_at "eval ListComp") => `(tactic| (k_here; (with_reducible rename Fr _ _ _ _ => fF); (k_dflt (refine' compF badV fF ?hA ?hclos ?hcell ?hkind ?hnames ?hx ?_ ?hs ?hd; (case hA => exact rfl); (case hclos => exact closureFor_none (by decide)); (case hcell => decide); (case hkind => exact rfl); (case hnames => decide); (case hx => exact rfl); (case hs => intro _; exact rfl); (case hd => decide)))))
local macro_rules | `(tactic| walk_at "eval Name") => `(tactic| ((with_reducible rename Heap.Ns _ _ _ => nsH); (with_reducible rename _ = some _ => nsE); (k_dflt (refine' wpAny_Name (wpAny_loadName_local ?k1 ?k2 nsH nsE ?_) ?k3; (case k1 => exact rfl); (case k2 => exact rfl); (case k3 => decide)))))
local macro_rules | `(tactic| walk_at "call ref") => `(tactic| (k_here; (with_reducible rename News _ _ _ _ => nN); (with_reducible rename Fr _ _ _ _ => fF); (with_reducible rename Frag.In _ _ => xX); (with_reducible rename Top _ _ _ _ _ _ => tT); (with_reducible rename Below _ _ _ _ => bB); (k_dflt (first
  | (refine' co1 _ _ _ _ _ _ _ _ _ _ _ _ _ _ _ 0 0 0 _ _ _ 0 0 0 bB fF xX (News.cons_mem nN (by first | exact .head _ | exact .tail _ (.head _) | exact .tail _ (.tail _ (.head _)) | exact .tail _ (.tail _ (.tail _ (.head _))) | exact .tail _ (.tail _ (.tail _ (.tail _ (.head _)))) | exact .tail _ (.tail _ (.tail _ (.tail _ (.tail _ (.head _))))) | exact .tail _ (.tail _ (.tail _ (.tail _ (.tail _ (.tail _ (.head _)))))) | exact .tail _ (.tail _ (.tail _ (.tail _ (.tail _ (.tail _ (.tail _ (.head _))))))))) tT ?h0 ?_; (case h0 => assumption); intro h' tk' q' n' F' N'; replace N' := News.skip2 N')
  | (refine' do1 _ _ _ _ _ _ _ _ _ _ _ _ _ _ _ 0 0 0 _ _ _ 0 0 0 bB fF xX (News.cons_mem nN (by first | exact .head _ | exact .tail _ (.head _) | exact .tail _ (.tail _ (.head _)) | exact .tail _ (.tail _ (.tail _ (.head _))) | exact .tail _ (.tail _ (.tail _ (.tail _ (.head _)))) | exact .tail _ (.tail _ (.tail _ (.tail _ (.tail _ (.head _))))) | exact .tail _ (.tail _ (.tail _ (.tail _ (.tail _ (.tail _ (.head _)))))) | exact .tail _ (.tail _ (.tail _ (.tail _ (.tail _ (.tail _ (.tail _ (.head _))))))))) tT  ?_; intro h' tk' F' N'; replace N' := News.drop1 N'))); (try dsimp only)))
set_option pp.deepTerms false in
theorem wb1 : ∀ (w : World) (mean : ExcName → Option Value) (mg mb : Str → Option Value) (L a : Addr) (ccd : Value) (h₀ : Heap) (m0 : Str → Option Value) (news : List (Addr × Obj)) (s : Shared) (Q : Flow → Shared → Prop) (E : Value → Shared → Prop) (c r : Addr) (k : Nat) (x y z u : Int) (tx ty tz tu : Tok)
  (_ : Below callerA h₀ [] h₀) (_ : Fr h₀ L s.heap (fun y => if y = Str.ofString "row" then some (.ref r) else if y = Str.ofString "colour" then some (.ref c) else m0 y)) (_ : (hd.heap_39 w.params).In h₀) (_ : News h₀ L s.heap ((c, ({ cls := .type "tuple", data := .seq [Value.int x tx].toArray } : Obj)) :: (r, listOf [Value.int x tx].toArray k) :: news)) (_ : Top hd.view_39 (looseW hd.view_39 []) mean mg mb h₀) (_ : 0 ≤ x) (_ : 0 ≤ y) (_ : 0 ≤ z) (_ : 0 ≤ u)
  (_ : ∀ (h' : Heap) (tk' : Tok) (m' : Str → Option Value), m' (Str.ofString "found") = m0 (Str.ofString "found") → Fr h₀ L h' m' → News h₀ L h' news → Q .next { s with heap := h', toks := tk' }),
  wpAny (model Challenge.rw_ax6025_01.row.prog w) (callerA.deeper (lawEnv L a ccd)) (execs ((lawStmts 7).take 4) (lawEnv L a ccd)) Q E s := by
  w_on
  k_fill
  intros
  rename_i w mean mg mb L a ccd h₀ m0 news s Q E c r k x y z u tx ty tz tu B F X N T p0 p1 p2 p3 hQ
  conv in execs _ _ => arg 1; whnf
  k_steps
  (try rename Fr _ _ _ _ => F9)
  (try rename News _ _ _ _ => N9)
  refine ⟨_, [_], _, _, rfl, ?hsz, F9, N9, .tail _ (.head _), ?step, ?done⟩
  case hsz => exact Nat.le_of_ble_eq_true rfl
  case step =>
    intro v ys C D oC own k h tk E' mC hv F3 N3 hNs hm hCD
    clear F9 N9
    simp only [List.mem_cons, List.not_mem_nil, or_false] at hv
    subst hv
    all_goals k_steps
    all_goals first
      | exact F3
      | exact N3
      | rfl
      | exact (decide_eq_false (by omega)).symm
      | exact (decide_eq_true (by omega)).symm
  case done =>
    intro D k h' tk F3 N3
    clear F9 N9
    have hflt : List.filter badV [Value.int x tx] = [] := List.filter_eq_nil_iff.mpr (by intro v hv; simp only [List.mem_cons, List.not_mem_nil, or_false] at hv; subst hv; all_goals (simp only [badV, decide_eq_true_eq]; omega))
    rw [hflt] at N3
    k_steps
    (try rename Fr _ _ _ _ => F9)
    (try rename News _ _ _ _ => N9)
    show wpAny _ _ (pure Flow.next) _ _ _
    refine wpAny_pure ?_
    refine hQ _ _ _ ?_ F9 (News.sub N9 ?_)
    · rfl
    · first | exact .refl _ | exact .cons _ (.refl _) | exact .cons _ (.cons _ (.refl _)) | exact .cons _ (.cons _ (.cons _ (.refl _))) | exact .cons _ (.cons _ (.cons _ (.cons _ (.refl _)))) | exact .cons _ (.cons _ (.cons _ (.cons _ (.cons _ (.refl _))))) | exact .cons _ (.cons _ (.cons _ (.cons _ (.cons _ (.cons _ (.refl _)))))) | exact .cons _ (.cons _ (.cons _ (.cons _ (.cons _ (.cons _ (.cons _ (.refl _))))))) | exact .cons _ (.cons _ (.cons _ (.cons _ (.cons _ (.cons _ (.cons _ (.cons _ (.refl _)))))))) | exact .cons _ (.cons _ (.cons _ (.cons _ (.cons _ (.cons _ (.cons _ (.cons _ (.cons _ (.refl _))))))))) | exact .cons _ (.cons _ (.cons _ (.cons _ (.cons _ (.cons _ (.cons _ (.cons _ (.cons _ (.cons _ (.refl _)))))))))) | exact .cons _ (.cons _ (.cons _ (.cons _ (.cons _ (.cons _ (.cons _ (.cons _ (.cons _ (.cons _ (.cons _ (.refl _))))))))))) | exact .cons _ (.cons _ (.cons _ (.cons _ (.cons _ (.cons _ (.cons _ (.cons _ (.cons _ (.cons _ (.cons _ (.cons _ (.refl _)))))))))))) | exact .cons _ (.cons _ (.cons _ (.cons _ (.cons _ (.cons _ (.cons _ (.cons _ (.cons _ (.cons _ (.cons _ (.cons _ (.cons _ (.refl _))))))))))))) | exact .cons _ (.cons _ (.cons _ (.cons _ (.cons _ (.cons _ (.cons _ (.cons _ (.cons _ (.cons _ (.cons _ (.cons _ (.cons _ (.cons _ (.refl _)))))))))))))) | exact .cons _ (.cons _ (.cons _ (.cons _ (.cons _ (.cons _ (.cons _ (.cons _ (.cons _ (.cons _ (.cons _ (.cons _ (.cons _ (.cons _ (.cons _ (.refl _)))))))))))))))
end Mine
end
section
open PySem PySem.W PySem.Calls PyProof.Rows
set_option Elab.async false
set_option maxRecDepth 100000
set_option maxHeartbeats 8000000
namespace Mine
local macro_rules | `(tactic| walk_at "call ref") => `(tactic| (k_here; kts_any; k_dflt (refine wpAny_call ?_; (refine' enterTry ?k1 ?k2 ?k3 ?k4 ?k5 ?kA ?kF ?kE ?k6 ?k7 ?k8 ?k9 ?kB ?_ ?c2 ?c3 ?c4 ?c5; (case kA => exact rfl); (case kF => exact rfl); (case kE => exact rfl); (case k2 => k_asm); (case k1 => k_asm); (case k3 => k_asm); (case k4 => k_asm); (case k5 => k_asm); (case k6 => k_is); (case k7 => k_is); (case k8 => k_room); (case k9 => first | exact binds_K (by k_in) rfl (by k_is) rfl rfl rfl | exact BindsTo.of_eq rfl | fail "no rule for these arguments"); (case kB => exact locs rfl); (case c2 => exact rfl); (case c3 => exact rfl); (case c4 => exact rfl); (case c5 => decide); k_whole; intro g' L' h' FG' F' N' B' X' T' D'; (try dsimp only); (try k_lift B'); (try k_fold)))))
theorem and_keepCo2 {a b : Prop} (ha : a) (hb : a → b) : a ∧ b := ⟨ha, hb ha⟩
local macro_rules | `(tactic| walk_at "And") => `(tactic| ((with_reducible show PySem.Str.length (_ ++ _) ≤ sizeLine ∧ _); refine and_keepCo2 ?a ?_; (case a => size_fits); intro hSz'))
local macro_rules | `(tactic| walk_at "joinParts") => `(tactic| ((try (with_reducible refine joinParts_nilE ?_)); (with_reducible show wpAny _ _ (joinParts _ []) _ _ _); (with_reducible refine joinParts_nil (hsz := ?hsz) ?_); (case hsz => with_reducible assumption)))
local macro_rules | `(tactic| walk_at "ite") => `(tactic| (k_here; refine ite_isFalse (by simp only [ne_eq, not_true_eq_false, decide_false]; done) ?_))

set_option pp.deepTerms false in
theorem co2 : ∀ (w : World) (mean : ExcName → Option Value) (mg mb : Str → Option Value) (L a : Addr) (ccd : Value) (h₀ : Heap) (m : Str → Option Value) (news : List (Addr × Obj)) (s : Shared) (Q : Value → Shared → Prop) (E : Value → Shared → Prop) (p : Addr) (x y z u : Int) (t0 ts tx ty tz tu : Tok)
  (_ : Below callerA h₀ [] h₀) (_ : Fr h₀ L s.heap m) (_ : (hd.heap_39 w.params).In h₀) (_ : News h₀ L s.heap ((p, ({ cls := .type "tuple", data := .seq [Value.int x tx, Value.int y ty].toArray } : Obj)) :: news)) (_ : Top hd.view_39 (looseW hd.view_39 []) mean mg mb h₀) 
  (_ : ∀ (h' : Heap) (tk' : Tok), Fr h₀ L h' m → News h₀ L h' ((p, ({ cls := .type "tuple", data := .seq [Value.int x tx, Value.int y ty].toArray } : Obj)) :: news) → Q .none { s with heap := h', toks := tk' }),
  wpAny (model Challenge.rw_ax6025_01.row.prog w) (callerA.deeper (lawEnv L a ccd)) (call (.ref 105) [.int 1 t0, .ref p, .bool true, .str (Str.ofString "transparent") ts]) Q E s := by
  w_on
  k_fill
  intros
  k_steps
  all_goals ((with_reducible rename ∀ (h' : Heap) (tk' : Tok), _ → _ → _ => hQ); first
    | exact hQ _ _ (by assumption) (by assumption)
    | (exfalso; omega)
    | (exfalso; simp_all; done)
    | (exfalso; simp_all; omega))

end Mine
end
section
open PySem PySem.W PySem.Calls PyProof.Rows
set_option Elab.async false
set_option maxRecDepth 100000
set_option maxHeartbeats 8000000
namespace Mine
local macro_rules | `(tactic| walk_at "call ref") => `(tactic| (k_here; kts_any; k_dflt (refine wpAny_call ?_; (refine' enterTry ?k1 ?k2 ?k3 ?k4 ?k5 ?kA ?kF ?kE ?k6 ?k7 ?k8 ?k9 ?kB ?_ ?c2 ?c3 ?c4 ?c5; (case kA => exact rfl); (case kF => exact rfl); (case kE => exact rfl); (case k2 => k_asm); (case k1 => k_asm); (case k3 => k_asm); (case k4 => k_asm); (case k5 => k_asm); (case k6 => k_is); (case k7 => k_is); (case k8 => k_room); (case k9 => first | exact binds_K (by k_in) rfl (by k_is) rfl rfl rfl | exact BindsTo.of_eq rfl | fail "no rule for these arguments"); (case kB => exact locs rfl); (case c2 => exact rfl); (case c3 => exact rfl); (case c4 => exact rfl); (case c5 => decide); k_whole; intro g' L' h' FG' F' N' B' X' T' D'; (try dsimp only); (try k_lift B'); (try k_fold)))))
theorem and_keepDo2 {a b : Prop} (ha : a) (hb : a → b) : a ∧ b := ⟨ha, hb ha⟩
local macro_rules | `(tactic| walk_at "And") => `(tactic| ((with_reducible show PySem.Str.length (_ ++ _) ≤ sizeLine ∧ _); refine and_keepDo2 ?a ?_; (case a => size_fits); intro hSz'))
local macro_rules | `(tactic| walk_at "joinParts") => `(tactic| ((try (with_reducible refine joinParts_nilE ?_)); (with_reducible show wpAny _ _ (joinParts _ []) _ _ _); (with_reducible refine joinParts_nil (hsz := ?hsz) ?_); (case hsz => with_reducible assumption)))
local macro_rules | `(tactic| walk_at "ite") => `(tactic| (k_here; refine ite_isFalse (by simp only [ne_eq, not_true_eq_false, decide_false]; done) ?_))

set_option pp.deepTerms false in
theorem do2 : ∀ (w : World) (mean : ExcName → Option Value) (mg mb : Str → Option Value) (L a : Addr) (ccd : Value) (h₀ : Heap) (m : Str → Option Value) (news : List (Addr × Obj)) (s : Shared) (Q : Value → Shared → Prop) (E : Value → Shared → Prop) (p : Addr) (x y z u : Int) (t0 ts tx ty tz tu : Tok)
  (_ : Below callerA h₀ [] h₀) (_ : Fr h₀ L s.heap m) (_ : (hd.heap_39 w.params).In h₀) (_ : News h₀ L s.heap ((p, ({ cls := .type "tuple", data := .seq [Value.int x tx, Value.int y ty].toArray } : Obj)) :: news)) (_ : Top hd.view_39 (looseW hd.view_39 []) mean mg mb h₀) 
  (_ : ∀ (h' : Heap) (tk' : Tok), Fr h₀ L h' m → News h₀ L h' ((p, ({ cls := .type "tuple", data := .seq [Value.int x tx, Value.int y ty].toArray } : Obj)) :: news) → Q .none { s with heap := h', toks := tk' }),
  wpAny (model Challenge.rw_ax6025_01.row.prog w) (callerA.deeper (lawEnv L a ccd)) (call (.ref 105) [.int 1 t0, .ref p, .bool false, .str (Str.ofString "background") ts]) Q E s := by
  w_on
  k_fill
  intros
  k_steps
  all_goals ((with_reducible rename ∀ (h' : Heap) (tk' : Tok), _ → _ → _ => hQ); first
    | exact hQ _ _ (by assumption) (by assumption)
    | (exfalso; omega)
    | (exfalso; simp_all; done)
    | (exfalso; simp_all; omega))

end Mine
end
section
open PySem PySem.W PySem.Calls PyProof.Rows
set_option Elab.async false
set_option maxRecDepth 100000
set_option maxHeartbeats 2000000
namespace Mine
local macro_rules | `(tactic| walk_at "eval ListComp") => `(tactic| (k_here; (with_reducible rename Fr _ _ _ _ => fF); (k_dflt (refine' compF badV fF ?hA ?hclos ?hcell ?hkind ?hnames ?hx ?_ ?hs ?hd; (case hA => exact rfl); (case hclos => exact closureFor_none (by decide)); (case hcell => decide); (case hkind => exact rfl); (case hnames => decide); (case hx => exact rfl); (case hs => intro _; exact rfl); (case hd => decide)))))
local macro_rules | `(tactic| walk_at "eval Name") => `(tactic| ((with_reducible rename Heap.Ns _ _ _ => nsH); (with_reducible rename _ = some _ => nsE); (k_dflt (refine' wpAny_Name (wpAny_loadName_local ?k1 ?k2 nsH nsE ?_) ?k3; (case k1 => exact rfl); (case k2 => exact rfl); (case k3 => decide)))))
local macro_rules | `(tactic| walk_at "call ref") => `(tactic| (k_here; (with_reducible rename News _ _ _ _ => nN); (with_reducible rename Fr _ _ _ _ => fF); (with_reducible rename Frag.In _ _ => xX); (with_reducible rename Top _ _ _ _ _ _ => tT); (with_reducible rename Below _ _ _ _ => bB); (k_dflt (first
  | (refine' co2 _ _ _ _ _ _ _ _ _ _ _ _ _ _ _ _ 0 0 _ _ _ _ 0 0 bB fF xX (News.cons_mem nN (by first | exact .head _ | exact .tail _ (.head _) | exact .tail _ (.tail _ (.head _)) | exact .tail _ (.tail _ (.tail _ (.head _))) | exact .tail _ (.tail _ (.tail _ (.tail _ (.head _)))) | exact .tail _ (.tail _ (.tail _ (.tail _ (.tail _ (.head _))))) | exact .tail _ (.tail _ (.tail _ (.tail _ (.tail _ (.tail _ (.head _)))))) | exact .tail _ (.tail _ (.tail _ (.tail _ (.tail _ (.tail _ (.tail _ (.head _))))))))) tT  ?_; intro h' tk' F' N'; replace N' := News.drop1 N')
  | (refine' do2 _ _ _ _ _ _ _ _ _ _ _ _ _ _ _ _ 0 0 _ _ _ _ 0 0 bB fF xX (News.cons_mem nN (by first | exact .head _ | exact .tail _ (.head _) | exact .tail _ (.tail _ (.head _)) | exact .tail _ (.tail _ (.tail _ (.head _))) | exact .tail _ (.tail _ (.tail _ (.tail _ (.head _)))) | exact .tail _ (.tail _ (.tail _ (.tail _ (.tail _ (.head _))))) | exact .tail _ (.tail _ (.tail _ (.tail _ (.tail _ (.tail _ (.head _)))))) | exact .tail _ (.tail _ (.tail _ (.tail _ (.tail _ (.tail _ (.tail _ (.head _))))))))) tT  ?_; intro h' tk' F' N'; replace N' := News.drop1 N'))); (try dsimp only)))
set_option pp.deepTerms false in
theorem wb2 : ∀ (w : World) (mean : ExcName → Option Value) (mg mb : Str → Option Value) (L a : Addr) (ccd : Value) (h₀ : Heap) (m0 : Str → Option Value) (news : List (Addr × Obj)) (s : Shared) (Q : Flow → Shared → Prop) (E : Value → Shared → Prop) (c r : Addr) (k : Nat) (x y z u : Int) (tx ty tz tu : Tok)
  (_ : Below callerA h₀ [] h₀) (_ : Fr h₀ L s.heap (fun y => if y = Str.ofString "row" then some (.ref r) else if y = Str.ofString "colour" then some (.ref c) else m0 y)) (_ : (hd.heap_39 w.params).In h₀) (_ : News h₀ L s.heap ((c, ({ cls := .type "tuple", data := .seq [Value.int x tx, Value.int y ty].toArray } : Obj)) :: (r, listOf [Value.int x tx, Value.int y ty].toArray k) :: news)) (_ : Top hd.view_39 (looseW hd.view_39 []) mean mg mb h₀) (_ : 0 ≤ x) (_ : 0 ≤ y) (_ : 0 ≤ z) (_ : 0 ≤ u)
  (_ : ∀ (h' : Heap) (tk' : Tok) (m' : Str → Option Value), m' (Str.ofString "found") = m0 (Str.ofString "found") → Fr h₀ L h' m' → News h₀ L h' news → Q .next { s with heap := h', toks := tk' }),
  wpAny (model Challenge.rw_ax6025_01.row.prog w) (callerA.deeper (lawEnv L a ccd)) (execs ((lawStmts 7).take 4) (lawEnv L a ccd)) Q E s := by
  w_on
  k_fill
  intros
  rename_i w mean mg mb L a ccd h₀ m0 news s Q E c r k x y z u tx ty tz tu B F X N T p0 p1 p2 p3 hQ
  conv in execs _ _ => arg 1; whnf
  k_steps
  (try rename Fr _ _ _ _ => F9)
  (try rename News _ _ _ _ => N9)
  refine ⟨_, [_, _], _, _, rfl, ?hsz, F9, N9, .tail _ (.head _), ?step, ?done⟩
  case hsz => exact Nat.le_of_ble_eq_true rfl
  case step =>
    intro v ys C D oC own k h tk E' mC hv F3 N3 hNs hm hCD
    clear F9 N9
    simp only [List.mem_cons, List.not_mem_nil, or_false] at hv
    rcases hv with rfl | rfl
    all_goals k_steps
    all_goals first
      | exact F3
      | exact N3
      | rfl
      | exact (decide_eq_false (by omega)).symm
      | exact (decide_eq_true (by omega)).symm
  case done =>
    intro D k h' tk F3 N3
    clear F9 N9
    have hflt : List.filter badV [Value.int x tx, Value.int y ty] = [] := List.filter_eq_nil_iff.mpr (by intro v hv; simp only [List.mem_cons, List.not_mem_nil, or_false] at hv; rcases hv with rfl | rfl; all_goals (simp only [badV, decide_eq_true_eq]; omega))
    rw [hflt] at N3
    k_steps
    (try rename Fr _ _ _ _ => F9)
    (try rename News _ _ _ _ => N9)
    show wpAny _ _ (pure Flow.next) _ _ _
    refine wpAny_pure ?_
    refine hQ _ _ _ ?_ F9 (News.sub N9 ?_)
    · rfl
    · first | exact .refl _ | exact .cons _ (.refl _) | exact .cons _ (.cons _ (.refl _)) | exact .cons _ (.cons _ (.cons _ (.refl _))) | exact .cons _ (.cons _ (.cons _ (.cons _ (.refl _)))) | exact .cons _ (.cons _ (.cons _ (.cons _ (.cons _ (.refl _))))) | exact .cons _ (.cons _ (.cons _ (.cons _ (.cons _ (.cons _ (.refl _)))))) | exact .cons _ (.cons _ (.cons _ (.cons _ (.cons _ (.cons _ (.cons _ (.refl _))))))) | exact .cons _ (.cons _ (.cons _ (.cons _ (.cons _ (.cons _ (.cons _ (.cons _ (.refl _)))))))) | exact .cons _ (.cons _ (.cons _ (.cons _ (.cons _ (.cons _ (.cons _ (.cons _ (.cons _ (.refl _))))))))) | exact .cons _ (.cons _ (.cons _ (.cons _ (.cons _ (.cons _ (.cons _ (.cons _ (.cons _ (.cons _ (.refl _)))))))))) | exact .cons _ (.cons _ (.cons _ (.cons _ (.cons _ (.cons _ (.cons _ (.cons _ (.cons _ (.cons _ (.cons _ (.refl _))))))))))) | exact .cons _ (.cons _ (.cons _ (.cons _ (.cons _ (.cons _ (.cons _ (.cons _ (.cons _ (.cons _ (.cons _ (.cons _ (.refl _)))))))))))) | exact .cons _ (.cons _ (.cons _ (.cons _ (.cons _ (.cons _ (.cons _ (.cons _ (.cons _ (.cons _ (.cons _ (.cons _ (.cons _ (.refl _))))))))))))) | exact .cons _ (.cons _ (.cons _ (.cons _ (.cons _ (.cons _ (.cons _ (.cons _ (.cons _ (.cons _ (.cons _ (.cons _ (.cons _ (.cons _ (.refl _)))))))))))))) | exact .cons _ (.cons _ (.cons _ (.cons _ (.cons _ (.cons _ (.cons _ (.cons _ (.cons _ (.cons _ (.cons _ (.cons _ (.cons _ (.cons _ (.cons _ (.refl _)))))))))))))))
end Mine
end
section
open PySem PySem.W PySem.Calls PyProof.Rows
set_option Elab.async false
set_option maxRecDepth 100000
set_option maxHeartbeats 8000000
namespace Mine
local macro_rules | `(tactic| walk_at "call ref") => `(tactic| (k_here; kts_any; k_dflt (refine wpAny_call ?_; (refine' enterTry ?k1 ?k2 ?k3 ?k4 ?k5 ?kA ?kF ?kE ?k6 ?k7 ?k8 ?k9 ?kB ?_ ?c2 ?c3 ?c4 ?c5; (case kA => exact rfl); (case kF => exact rfl); (case kE => exact rfl); (case k2 => k_asm); (case k1 => k_asm); (case k3 => k_asm); (case k4 => k_asm); (case k5 => k_asm); (case k6 => k_is); (case k7 => k_is); (case k8 => k_room); (case k9 => first | exact binds_K (by k_in) rfl (by k_is) rfl rfl rfl | exact BindsTo.of_eq rfl | fail "no rule for these arguments"); (case kB => exact locs rfl); (case c2 => exact rfl); (case c3 => exact rfl); (case c4 => exact rfl); (case c5 => decide); k_whole; intro g' L' h' FG' F' N' B' X' T' D'; (try dsimp only); (try k_lift B'); (try k_fold)))))
theorem and_keepDo3 {a b : Prop} (ha : a) (hb : a → b) : a ∧ b := ⟨ha, hb ha⟩
local macro_rules | `(tactic| walk_at "And") => `(tactic| ((with_reducible show PySem.Str.length (_ ++ _) ≤ sizeLine ∧ _); refine and_keepDo3 ?a ?_; (case a => size_fits); intro hSz'))
local macro_rules | `(tactic| walk_at "joinParts") => `(tactic| ((try (with_reducible refine joinParts_nilE ?_)); (with_reducible show wpAny _ _ (joinParts _ []) _ _ _); (with_reducible refine joinParts_nil (hsz := ?hsz) ?_); (case hsz => with_reducible assumption)))
local macro_rules | `(tactic| walk_at "ite") => `(tactic| (k_here; refine ite_isFalse (by simp only [ne_eq, not_true_eq_false, decide_false]; done) ?_))

set_option pp.deepTerms false in
theorem do3 : ∀ (w : World) (mean : ExcName → Option Value) (mg mb : Str → Option Value) (L a : Addr) (ccd : Value) (h₀ : Heap) (m : Str → Option Value) (news : List (Addr × Obj)) (s : Shared) (Q : Value → Shared → Prop) (E : Value → Shared → Prop) (p : Addr) (x y z u : Int) (t0 ts tx ty tz tu : Tok)
  (_ : Below callerA h₀ [] h₀) (_ : Fr h₀ L s.heap m) (_ : (hd.heap_39 w.params).In h₀) (_ : News h₀ L s.heap ((p, ({ cls := .type "tuple", data := .seq [Value.int x tx, Value.int y ty, Value.int z tz].toArray } : Obj)) :: news)) (_ : Top hd.view_39 (looseW hd.view_39 []) mean mg mb h₀) (_ : 0 ≤ x) (_ : 0 ≤ y) (_ : 0 ≤ z)
  (_ : ∀ (h' : Heap) (tk' : Tok) (q : Addr) (n : Nat), Fr h₀ L h' m → News h₀ L h' ((q, listOf [Value.ref p].toArray n) :: (p, ({ cls := .type "tuple", data := .seq [Value.int x tx, Value.int y ty, Value.int z tz].toArray } : Obj)) :: news) → Q (.ref q) { s with heap := h', toks := tk' }),
  wpAny (model Challenge.rw_ax6025_01.row.prog w) (callerA.deeper (lawEnv L a ccd)) (call (.ref 105) [.int 1 t0, .ref p, .bool false, .str (Str.ofString "background") ts]) Q E s := by
  w_on
  k_fill
  intros
  k_steps
  all_goals ((with_reducible rename ∀ (h' : Heap) (tk' : Tok) (q : Addr) (n : Nat), _ → _ → _ => hQ); first
    | exact hQ _ _ _ _ (by assumption) (by assumption)
    | (exfalso; omega)
    | (exfalso; simp_all; done)
    | (exfalso; simp_all; omega))

end Mine
end
section
open PySem PySem.W PySem.Calls PyProof.Rows
set_option Elab.async false
set_option maxRecDepth 100000
set_option maxHeartbeats 2000000
namespace Mine
local macro_rules | `(tactic| walk_at "eval ListComp") => `(tactic| (k_here; (with_reducible rename Fr _ _ _ _ => fF); (k_dflt (refine' compF badV fF ?hA ?hclos ?hcell ?hkind ?hnames ?hx ?_ ?hs ?hd; (case hA => exact rfl); (case hclos => exact closureFor_none (by decide)); (case hcell => decide); (case hkind => exact rfl); (case hnames => decide); (case hx => exact rfl); (case hs => intro _; exact rfl); (case hd => decide)))))
local macro_rules | `(tactic| walk_at "eval Name") => `(tactic| ((with_reducible rename Heap.Ns _ _ _ => nsH); (with_reducible rename _ = some _ => nsE); (k_dflt (refine' wpAny_Name (wpAny_loadName_local ?k1 ?k2 nsH nsE ?_) ?k3; (case k1 => exact rfl); (case k2 => exact rfl); (case k3 => decide)))))
local macro_rules | `(tactic| walk_at "call ref") => `(tactic| (k_here; (with_reducible rename News _ _ _ _ => nN); (with_reducible rename Fr _ _ _ _ => fF); (with_reducible rename Frag.In _ _ => xX); (with_reducible rename Top _ _ _ _ _ _ => tT); (with_reducible rename Below _ _ _ _ => bB); (k_dflt (first
  | (refine' co3 _ _ _ _ _ _ _ _ _ _ _ _ _ _ _ _ _ 0 _ _ _ _ _ 0 bB fF xX (News.cons_mem nN (by first | exact .head _ | exact .tail _ (.head _) | exact .tail _ (.tail _ (.head _)) | exact .tail _ (.tail _ (.tail _ (.head _))) | exact .tail _ (.tail _ (.tail _ (.tail _ (.head _)))) | exact .tail _ (.tail _ (.tail _ (.tail _ (.tail _ (.head _))))) | exact .tail _ (.tail _ (.tail _ (.tail _ (.tail _ (.tail _ (.head _)))))) | exact .tail _ (.tail _ (.tail _ (.tail _ (.tail _ (.tail _ (.tail _ (.head _))))))))) tT  ?_; intro h' tk' F' N'; replace N' := News.drop1 N')
  | (refine' do3 _ _ _ _ _ _ _ _ _ _ _ _ _ _ _ _ _ 0 _ _ _ _ _ 0 bB fF xX (News.cons_mem nN (by first | exact .head _ | exact .tail _ (.head _) | exact .tail _ (.tail _ (.head _)) | exact .tail _ (.tail _ (.tail _ (.head _))) | exact .tail _ (.tail _ (.tail _ (.tail _ (.head _)))) | exact .tail _ (.tail _ (.tail _ (.tail _ (.tail _ (.head _))))) | exact .tail _ (.tail _ (.tail _ (.tail _ (.tail _ (.tail _ (.head _)))))) | exact .tail _ (.tail _ (.tail _ (.tail _ (.tail _ (.tail _ (.tail _ (.head _))))))))) tT ?h0 ?h1 ?h2 ?_; (case h0 => assumption); (case h1 => assumption); (case h2 => assumption); intro h' tk' q' n' F' N'; replace N' := News.skip2 N'))); (try dsimp only)))
set_option pp.deepTerms false in
theorem wb3 : ∀ (w : World) (mean : ExcName → Option Value) (mg mb : Str → Option Value) (L a : Addr) (ccd : Value) (h₀ : Heap) (m0 : Str → Option Value) (news : List (Addr × Obj)) (s : Shared) (Q : Flow → Shared → Prop) (E : Value → Shared → Prop) (c r : Addr) (k : Nat) (x y z u : Int) (tx ty tz tu : Tok)
  (_ : Below callerA h₀ [] h₀) (_ : Fr h₀ L s.heap (fun y => if y = Str.ofString "row" then some (.ref r) else if y = Str.ofString "colour" then some (.ref c) else m0 y)) (_ : (hd.heap_39 w.params).In h₀) (_ : News h₀ L s.heap ((c, ({ cls := .type "tuple", data := .seq [Value.int x tx, Value.int y ty, Value.int z tz].toArray } : Obj)) :: (r, listOf [Value.int x tx, Value.int y ty, Value.int z tz].toArray k) :: news)) (_ : Top hd.view_39 (looseW hd.view_39 []) mean mg mb h₀) (_ : 0 ≤ x) (_ : 0 ≤ y) (_ : 0 ≤ z) (_ : 0 ≤ u)
  (_ : ∀ (h' : Heap) (tk' : Tok) (m' : Str → Option Value), m' (Str.ofString "found") = m0 (Str.ofString "found") → Fr h₀ L h' m' → News h₀ L h' news → Q .next { s with heap := h', toks := tk' }),
  wpAny (model Challenge.rw_ax6025_01.row.prog w) (callerA.deeper (lawEnv L a ccd)) (execs ((lawStmts 7).take 4) (lawEnv L a ccd)) Q E s := by
  w_on
  k_fill
  intros
  rename_i w mean mg mb L a ccd h₀ m0 news s Q E c r k x y z u tx ty tz tu B F X N T p0 p1 p2 p3 hQ
  conv in execs _ _ => arg 1; whnf
  k_steps
  (try rename Fr _ _ _ _ => F9)
  (try rename News _ _ _ _ => N9)
  refine ⟨_, [_, _, _], _, _, rfl, ?hsz, F9, N9, .tail _ (.head _), ?step, ?done⟩
  case hsz => exact Nat.le_of_ble_eq_true rfl
  case step =>
    intro v ys C D oC own k h tk E' mC hv F3 N3 hNs hm hCD
    clear F9 N9
    simp only [List.mem_cons, List.not_mem_nil, or_false] at hv
    rcases hv with rfl | rfl | rfl
    all_goals k_steps
    all_goals first
      | exact F3
      | exact N3
      | rfl
      | exact (decide_eq_false (by omega)).symm
      | exact (decide_eq_true (by omega)).symm
  case done =>
    intro D k h' tk F3 N3
    clear F9 N9
    have hflt : List.filter badV [Value.int x tx, Value.int y ty, Value.int z tz] = [] := List.filter_eq_nil_iff.mpr (by intro v hv; simp only [List.mem_cons, List.not_mem_nil, or_false] at hv; rcases hv with rfl | rfl | rfl; all_goals (simp only [badV, decide_eq_true_eq]; omega))
    rw [hflt] at N3
    k_steps
    (try rename Fr _ _ _ _ => F9)
    (try rename News _ _ _ _ => N9)
    show wpAny _ _ (pure Flow.next) _ _ _
    refine wpAny_pure ?_
    refine hQ _ _ _ ?_ F9 (News.sub N9 ?_)
    · rfl
    · first | exact .refl _ | exact .cons _ (.refl _) | exact .cons _ (.cons _ (.refl _)) | exact .cons _ (.cons _ (.cons _ (.refl _))) | exact .cons _ (.cons _ (.cons _ (.cons _ (.refl _)))) | exact .cons _ (.cons _ (.cons _ (.cons _ (.cons _ (.refl _))))) | exact .cons _ (.cons _ (.cons _ (.cons _ (.cons _ (.cons _ (.refl _)))))) | exact .cons _ (.cons _ (.cons _ (.cons _ (.cons _ (.cons _ (.cons _ (.refl _))))))) | exact .cons _ (.cons _ (.cons _ (.cons _ (.cons _ (.cons _ (.cons _ (.cons _ (.refl _)))))))) | exact .cons _ (.cons _ (.cons _ (.cons _ (.cons _ (.cons _ (.cons _ (.cons _ (.cons _ (.refl _))))))))) | exact .cons _ (.cons _ (.cons _ (.cons _ (.cons _ (.cons _ (.cons _ (.cons _ (.cons _ (.cons _ (.refl _)))))))))) | exact .cons _ (.cons _ (.cons _ (.cons _ (.cons _ (.cons _ (.cons _ (.cons _ (.cons _ (.cons _ (.cons _ (.refl _))))))))))) | exact .cons _ (.cons _ (.cons _ (.cons _ (.cons _ (.cons _ (.cons _ (.cons _ (.cons _ (.cons _ (.cons _ (.cons _ (.refl _)))))))))))) | exact .cons _ (.cons _ (.cons _ (.cons _ (.cons _ (.cons _ (.cons _ (.cons _ (.cons _ (.cons _ (.cons _ (.cons _ (.cons _ (.refl _))))))))))))) | exact .cons _ (.cons _ (.cons _ (.cons _ (.cons _ (.cons _ (.cons _ (.cons _ (.cons _ (.cons _ (.cons _ (.cons _ (.cons _ (.cons _ (.refl _)))))))))))))) | exact .cons _ (.cons _ (.cons _ (.cons _ (.cons _ (.cons _ (.cons _ (.cons _ (.cons _ (.cons _ (.cons _ (.cons _ (.cons _ (.cons _ (.cons _ (.refl _)))))))))))))))
end Mine
end
section
open PySem PySem.W PySem.Calls PyProof.Rows
set_option Elab.async false
set_option maxRecDepth 100000
set_option maxHeartbeats 8000000
namespace Mine
local macro_rules | `(tactic| walk_at "call ref") => `(tactic| (k_here; kts_any; k_dflt (refine wpAny_call ?_; (refine' enterTry ?k1 ?k2 ?k3 ?k4 ?k5 ?kA ?kF ?kE ?k6 ?k7 ?k8 ?k9 ?kB ?_ ?c2 ?c3 ?c4 ?c5; (case kA => exact rfl); (case kF => exact rfl); (case kE => exact rfl); (case k2 => k_asm); (case k1 => k_asm); (case k3 => k_asm); (case k4 => k_asm); (case k5 => k_asm); (case k6 => k_is); (case k7 => k_is); (case k8 => k_room); (case k9 => first | exact binds_K (by k_in) rfl (by k_is) rfl rfl rfl | exact BindsTo.of_eq rfl | fail "no rule for these arguments"); (case kB => exact locs rfl); (case c2 => exact rfl); (case c3 => exact rfl); (case c4 => exact rfl); (case c5 => decide); k_whole; intro g' L' h' FG' F' N' B' X' T' D'; (try dsimp only); (try k_lift B'); (try k_fold)))))
theorem and_keepCo4 {a b : Prop} (ha : a) (hb : a → b) : a ∧ b := ⟨ha, hb ha⟩
local macro_rules | `(tactic| walk_at "And") => `(tactic| ((with_reducible show PySem.Str.length (_ ++ _) ≤ sizeLine ∧ _); refine and_keepCo4 ?a ?_; (case a => size_fits); intro hSz'))
local macro_rules | `(tactic| walk_at "joinParts") => `(tactic| ((try (with_reducible refine joinParts_nilE ?_)); (with_reducible show wpAny _ _ (joinParts _ []) _ _ _); (with_reducible refine joinParts_nil (hsz := ?hsz) ?_); (case hsz => with_reducible assumption)))
local macro_rules | `(tactic| walk_at "ite") => `(tactic| (k_here; refine ite_isFalse (by simp only [ne_eq, not_true_eq_false, decide_false]; done) ?_))

set_option pp.deepTerms false in
theorem co4 : ∀ (w : World) (mean : ExcName → Option Value) (mg mb : Str → Option Value) (L a : Addr) (ccd : Value) (h₀ : Heap) (m : Str → Option Value) (news : List (Addr × Obj)) (s : Shared) (Q : Value → Shared → Prop) (E : Value → Shared → Prop) (p : Addr) (x y z u : Int) (t0 ts tx ty tz tu : Tok)
  (_ : Below callerA h₀ [] h₀) (_ : Fr h₀ L s.heap m) (_ : (hd.heap_39 w.params).In h₀) (_ : News h₀ L s.heap ((p, ({ cls := .type "tuple", data := .seq [Value.int x tx, Value.int y ty, Value.int z tz, Value.int u tu].toArray } : Obj)) :: news)) (_ : Top hd.view_39 (looseW hd.view_39 []) mean mg mb h₀) 
  (_ : ∀ (h' : Heap) (tk' : Tok), Fr h₀ L h' m → News h₀ L h' ((p, ({ cls := .type "tuple", data := .seq [Value.int x tx, Value.int y ty, Value.int z tz, Value.int u tu].toArray } : Obj)) :: news) → Q .none { s with heap := h', toks := tk' }),
  wpAny (model Challenge.rw_ax6025_01.row.prog w) (callerA.deeper (lawEnv L a ccd)) (call (.ref 105) [.int 1 t0, .ref p, .bool true, .str (Str.ofString "transparent") ts]) Q E s := by
  w_on
  k_fill
  intros
  k_steps
  all_goals ((with_reducible rename ∀ (h' : Heap) (tk' : Tok), _ → _ → _ => hQ); first
    | exact hQ _ _ (by assumption) (by assumption)
    | (exfalso; omega)
    | (exfalso; simp_all; done)
    | (exfalso; simp_all; omega))

end Mine
end
section
open PySem PySem.W PySem.Calls PyProof.Rows
set_option Elab.async false
set_option maxRecDepth 100000
set_option maxHeartbeats 8000000
namespace Mine
local macro_rules | `(tactic| walk_at "call ref") => `(tactic| (k_here; kts_any; k_dflt (refine wpAny_call ?_; (refine' enterTry ?k1 ?k2 ?k3 ?k4 ?k5 ?kA ?kF ?kE ?k6 ?k7 ?k8 ?k9 ?kB ?_ ?c2 ?c3 ?c4 ?c5; (case kA => exact rfl); (case kF => exact rfl); (case kE => exact rfl); (case k2 => k_asm); (case k1 => k_asm); (case k3 => k_asm); (case k4 => k_asm); (case k5 => k_asm); (case k6 => k_is); (case k7 => k_is); (case k8 => k_room); (case k9 => first | exact binds_K (by k_in) rfl (by k_is) rfl rfl rfl | exact BindsTo.of_eq rfl | fail "no rule for these arguments"); (case kB => exact locs rfl); (case c2 => exact rfl); (case c3 => exact rfl); (case c4 => exact rfl); (case c5 => decide); k_whole; intro g' L' h' FG' F' N' B' X' T' D'; (try dsimp only); (try k_lift B'); (try k_fold)))))
theorem and_keepDo4 {a b : Prop} (ha : a) (hb : a → b) : a ∧ b := ⟨ha, hb ha⟩
local macro_rules | `(tactic| walk_at "And") => `(tactic| ((with_reducible show PySem.Str.length (_ ++ _) ≤ sizeLine ∧ _); refine and_keepDo4 ?a ?_; (case a => size_fits); intro hSz'))
local macro_rules | `(tactic| walk_at "joinParts") => `(tactic| ((try (with_reducible refine joinParts_nilE ?_)); (with_reducible show wpAny _ _ (joinParts _ []) _ _ _); (with_reducible refine joinParts_nil (hsz := ?hsz) ?_); (case hsz => with_reducible assumption)))
local macro_rules | `(tactic| walk_at "ite") => `(tactic| (k_here; refine ite_isFalse (by simp only [ne_eq, not_true_eq_false, decide_false]; done) ?_))

set_option pp.deepTerms false in
theorem do4 : ∀ (w : World) (mean : ExcName → Option Value) (mg mb : Str → Option Value) (L a : Addr) (ccd : Value) (h₀ : Heap) (m : Str → Option Value) (news : List (Addr × Obj)) (s : Shared) (Q : Value → Shared → Prop) (E : Value → Shared → Prop) (p : Addr) (x y z u : Int) (t0 ts tx ty tz tu : Tok)
  (_ : Below callerA h₀ [] h₀) (_ : Fr h₀ L s.heap m) (_ : (hd.heap_39 w.params).In h₀) (_ : News h₀ L s.heap ((p, ({ cls := .type "tuple", data := .seq [Value.int x tx, Value.int y ty, Value.int z tz, Value.int u tu].toArray } : Obj)) :: news)) (_ : Top hd.view_39 (looseW hd.view_39 []) mean mg mb h₀) 
  (_ : ∀ (h' : Heap) (tk' : Tok), Fr h₀ L h' m → News h₀ L h' ((p, ({ cls := .type "tuple", data := .seq [Value.int x tx, Value.int y ty, Value.int z tz, Value.int u tu].toArray } : Obj)) :: news) → Q .none { s with heap := h', toks := tk' }),
  wpAny (model Challenge.rw_ax6025_01.row.prog w) (callerA.deeper (lawEnv L a ccd)) (call (.ref 105) [.int 1 t0, .ref p, .bool false, .str (Str.ofString "background") ts]) Q E s := by
  w_on
  k_fill
  intros
  k_steps
  all_goals ((with_reducible rename ∀ (h' : Heap) (tk' : Tok), _ → _ → _ => hQ); first
    | exact hQ _ _ (by assumption) (by assumption)
    | (exfalso; omega)
    | (exfalso; simp_all; done)
    | (exfalso; simp_all; omega))

end Mine
end
section
open PySem PySem.W PySem.Calls PyProof.Rows
set_option Elab.async false
set_option maxRecDepth 100000
set_option maxHeartbeats 2000000
namespace Mine
local macro_rules | `(tactic| walk_at "eval ListComp") => `(tactic| (k_here; (with_reducible rename Fr _ _ _ _ => fF); (k_dflt (refine' compF badV fF ?hA ?hclos ?hcell ?hkind ?hnames ?hx ?_ ?hs ?hd; (case hA => exact rfl); (case hclos => exact closureFor_none (by decide)); (case hcell => decide); (case hkind => exact rfl); (case hnames => decide); (case hx => exact rfl); (case hs => intro _; exact rfl); (case hd => decide)))))
local macro_rules | `(tactic| walk_at "eval Name") => `(tactic| ((with_reducible rename Heap.Ns _ _ _ => nsH); (with_reducible rename _ = some _ => nsE); (k_dflt (refine' wpAny_Name (wpAny_loadName_local ?k1 ?k2 nsH nsE ?_) ?k3; (case k1 => exact rfl); (case k2 => exact rfl); (case k3 => decide)))))
local macro_rules | `(tactic| walk_at "call ref") => `(tactic| (k_here; (with_reducible rename News _ _ _ _ => nN); (with_reducible rename Fr _ _ _ _ => fF); (with_reducible rename Frag.In _ _ => xX); (with_reducible rename Top _ _ _ _ _ _ => tT); (with_reducible rename Below _ _ _ _ => bB); (k_dflt (first
  | (refine' co4 _ _ _ _ _ _ _ _ _ _ _ _ _ _ _ _ _ _ _ _ _ _ _ _ bB fF xX (News.cons_mem nN (by first | exact .head _ | exact .tail _ (.head _) | exact .tail _ (.tail _ (.head _)) | exact .tail _ (.tail _ (.tail _ (.head _))) | exact .tail _ (.tail _ (.tail _ (.tail _ (.head _)))) | exact .tail _ (.tail _ (.tail _ (.tail _ (.tail _ (.head _))))) | exact .tail _ (.tail _ (.tail _ (.tail _ (.tail _ (.tail _ (.head _)))))) | exact .tail _ (.tail _ (.tail _ (.tail _ (.tail _ (.tail _ (.tail _ (.head _))))))))) tT  ?_; intro h' tk' F' N'; replace N' := News.drop1 N')
  | (refine' do4 _ _ _ _ _ _ _ _ _ _ _ _ _ _ _ _ _ _ _ _ _ _ _ _ bB fF xX (News.cons_mem nN (by first | exact .head _ | exact .tail _ (.head _) | exact .tail _ (.tail _ (.head _)) | exact .tail _ (.tail _ (.tail _ (.head _))) | exact .tail _ (.tail _ (.tail _ (.tail _ (.head _)))) | exact .tail _ (.tail _ (.tail _ (.tail _ (.tail _ (.head _))))) | exact .tail _ (.tail _ (.tail _ (.tail _ (.tail _ (.tail _ (.head _)))))) | exact .tail _ (.tail _ (.tail _ (.tail _ (.tail _ (.tail _ (.tail _ (.head _))))))))) tT  ?_; intro h' tk' F' N'; replace N' := News.drop1 N'))); (try dsimp only)))
set_option pp.deepTerms false in
theorem wb4 : ∀ (w : World) (mean : ExcName → Option Value) (mg mb : Str → Option Value) (L a : Addr) (ccd : Value) (h₀ : Heap) (m0 : Str → Option Value) (news : List (Addr × Obj)) (s : Shared) (Q : Flow → Shared → Prop) (E : Value → Shared → Prop) (c r : Addr) (k : Nat) (x y z u : Int) (tx ty tz tu : Tok)
  (_ : Below callerA h₀ [] h₀) (_ : Fr h₀ L s.heap (fun y => if y = Str.ofString "row" then some (.ref r) else if y = Str.ofString "colour" then some (.ref c) else m0 y)) (_ : (hd.heap_39 w.params).In h₀) (_ : News h₀ L s.heap ((c, ({ cls := .type "tuple", data := .seq [Value.int x tx, Value.int y ty, Value.int z tz, Value.int u tu].toArray } : Obj)) :: (r, listOf [Value.int x tx, Value.int y ty, Value.int z tz, Value.int u tu].toArray k) :: news)) (_ : Top hd.view_39 (looseW hd.view_39 []) mean mg mb h₀) (_ : 0 ≤ x) (_ : 0 ≤ y) (_ : 0 ≤ z) (_ : 0 ≤ u)
  (_ : ∀ (h' : Heap) (tk' : Tok) (m' : Str → Option Value), m' (Str.ofString "found") = m0 (Str.ofString "found") → Fr h₀ L h' m' → News h₀ L h' news → Q .next { s with heap := h', toks := tk' }),
  wpAny (model Challenge.rw_ax6025_01.row.prog w) (callerA.deeper (lawEnv L a ccd)) (execs ((lawStmts 7).take 4) (lawEnv L a ccd)) Q E s := by
  w_on
  k_fill
  intros
  rename_i w mean mg mb L a ccd h₀ m0 news s Q E c r k x y z u tx ty tz tu B F X N T p0 p1 p2 p3 hQ
  conv in execs _ _ => arg 1; whnf
  k_steps
  (try rename Fr _ _ _ _ => F9)
  (try rename News _ _ _ _ => N9)
  refine ⟨_, [_, _, _, _], _, _, rfl, ?hsz, F9, N9, .tail _ (.head _), ?step, ?done⟩
  case hsz => exact Nat.le_of_ble_eq_true rfl
  case step =>
    intro v ys C D oC own k h tk E' mC hv F3 N3 hNs hm hCD
    clear F9 N9
    simp only [List.mem_cons, List.not_mem_nil, or_false] at hv
    rcases hv with rfl | rfl | rfl | rfl
    all_goals k_steps
    all_goals first
      | exact F3
      | exact N3
      | rfl
      | exact (decide_eq_false (by omega)).symm
      | exact (decide_eq_true (by omega)).symm
  case done =>
    intro D k h' tk F3 N3
    clear F9 N9
    have hflt : List.filter badV [Value.int x tx, Value.int y ty, Value.int z tz, Value.int u tu] = [] := List.filter_eq_nil_iff.mpr (by intro v hv; simp only [List.mem_cons, List.not_mem_nil, or_false] at hv; rcases hv with rfl | rfl | rfl | rfl; all_goals (simp only [badV, decide_eq_true_eq]; omega))
    rw [hflt] at N3
    k_steps
    (try rename Fr _ _ _ _ => F9)
    (try rename News _ _ _ _ => N9)
    show wpAny _ _ (pure Flow.next) _ _ _
    refine wpAny_pure ?_
    refine hQ _ _ _ ?_ F9 (News.sub N9 ?_)
    · rfl
    · first | exact .refl _ | exact .cons _ (.refl _) | exact .cons _ (.cons _ (.refl _)) | exact .cons _ (.cons _ (.cons _ (.refl _))) | exact .cons _ (.cons _ (.cons _ (.cons _ (.refl _)))) | exact .cons _ (.cons _ (.cons _ (.cons _ (.cons _ (.refl _))))) | exact .cons _ (.cons _ (.cons _ (.cons _ (.cons _ (.cons _ (.refl _)))))) | exact .cons _ (.cons _ (.cons _ (.cons _ (.cons _ (.cons _ (.cons _ (.refl _))))))) | exact .cons _ (.cons _ (.cons _ (.cons _ (.cons _ (.cons _ (.cons _ (.cons _ (.refl _)))))))) | exact .cons _ (.cons _ (.cons _ (.cons _ (.cons _ (.cons _ (.cons _ (.cons _ (.cons _ (.refl _))))))))) | exact .cons _ (.cons _ (.cons _ (.cons _ (.cons _ (.cons _ (.cons _ (.cons _ (.cons _ (.cons _ (.refl _)))))))))) | exact .cons _ (.cons _ (.cons _ (.cons _ (.cons _ (.cons _ (.cons _ (.cons _ (.cons _ (.cons _ (.cons _ (.refl _))))))))))) | exact .cons _ (.cons _ (.cons _ (.cons _ (.cons _ (.cons _ (.cons _ (.cons _ (.cons _ (.cons _ (.cons _ (.cons _ (.refl _)))))))))))) | exact .cons _ (.cons _ (.cons _ (.cons _ (.cons _ (.cons _ (.cons _ (.cons _ (.cons _ (.cons _ (.cons _ (.cons _ (.cons _ (.refl _))))))))))))) | exact .cons _ (.cons _ (.cons _ (.cons _ (.cons _ (.cons _ (.cons _ (.cons _ (.cons _ (.cons _ (.cons _ (.cons _ (.cons _ (.cons _ (.refl _)))))))))))))) | exact .cons _ (.cons _ (.cons _ (.cons _ (.cons _ (.cons _ (.cons _ (.cons _ (.cons _ (.cons _ (.cons _ (.cons _ (.cons _ (.cons _ (.cons _ (.refl _)))))))))))))))
end Mine
end
section
open PySem PySem.W PySem.Calls PyProof.Rows
set_option Elab.async false
set_option maxRecDepth 100000
set_option maxHeartbeats 2000000
namespace Mine
local macro_rules | `(tactic| walk_at "call ref") => `(tactic| (k_here; (with_reducible rename News _ _ _ _ => nN); (with_reducible rename Fr _ _ _ _ => fF); (with_reducible rename Frag.In _ _ => xX); (with_reducible rename Top _ _ _ _ _ _ => tT); (with_reducible rename Below _ _ _ _ => bB); (k_dflt (refine' lcol _ _ _ _ _ _ _ _ _ _ _ _ _ _ _ _ _ _ _ _ _ _ _ _ _ _ _ _ _ _ _ _ _ bB fF xX nN tT ?H0 ?H1 ?H2 ?H6 ?H7 ?H8))))
set_option pp.deepTerms false in
theorem stmt6 : ∀ (w : World) (mean : ExcName → Option Value) (mg mb : Str → Option Value) (L a : Addr) (ccd : Value) (h₀ : Heap) (m0 : Str → Option Value) (s : Shared) (Q : Flow → Shared → Prop) (E : Value → Shared → Prop) (p : Addr) (a0 a1 a2 a3 a4 a5 a6 a7 a8 : Int) (n : Nat) (t0 t1 t2 t3 t4 t5 t6 t7 t8 : Tok)
  (_ : Below callerA h₀ [] h₀) (_ : Fr h₀ L s.heap (fun y => if y = Str.ofString "found" then some (.ref p) else m0 y)) (_ : (hd.heap_39 w.params).In h₀) (_ : News h₀ L s.heap [(p, listOf [Value.int a0 t0, Value.int a1 t1, Value.int a2 t2, Value.int a3 t3, Value.int a4 t4, Value.int a5 t5, Value.int a6 t6, Value.int a7 t7, Value.int a8 t8].toArray n)]) (_ : Top hd.view_39 (looseW hd.view_39 []) mean mg mb h₀)
  (_ : ∀ (h' : Heap) (tk' : Tok) (m' : Str → Option Value), Fr h₀ L h' m' → Q (.ret (.bool true)) { s with heap := h', toks := tk' }),
  wpC (model Challenge.rw_ax6025_01.row.prog w) (callerA.deeper (lawEnv L a ccd)) (execs (lawStmts 6) (lawEnv L a ccd)) Q E s := by
  w_on
  k_fill
  intros
  rename_i w mean mg mb L a ccd h₀ m0 s Q E p a0 a1 a2 a3 a4 a5 a6 a7 a8 n t0 t1 t2 t3 t4 t5 t6 t7 t8 B F X N T hQ
  have aft : ∀ (h' : Heap) (tk' : Tok) (m' : Str → Option Value), m' (Str.ofString "found") = some (.ref p) → Fr h₀ L h' m' → News h₀ L h' [(p, listOf [Value.int a0 t0, Value.int a1 t1, Value.int a2 t2, Value.int a3 t3, Value.int a4 t4, Value.int a5 t5, Value.int a6 t6, Value.int a7 t7, Value.int a8 t8].toArray n)] →
      wpC (model Challenge.rw_ax6025_01.row.prog w) (callerA.deeper (lawEnv L a ccd)) (execs (lawStmts 11) (lawEnv L a ccd)) Q E { s with heap := h', toks := tk' } := fun h' tk' m' e F' N' =>
    stmt11 w mean mg mb L a ccd h₀ m' _ Q E p a0 a1 a2 a3 a4 a5 a6 a7 a8 n t0 t1 t2 t3 t4 t5 t6 t7 t8 B (fr_again F' e) X N' T fun h₂ tk₂ F₂ N₂ =>
      lawTail w mean mg mb L a ccd h₀ m' _ Q E p a0 a1 a2 a3 a4 a5 a6 a7 a8 n t0 t1 t2 t3 t4 t5 t6 t7 t8 B F₂ X N₂ T fun h₃ tk₃ m₃ F₃ => hQ h₃ tk₃ m₃ F₃
  show wpC _ _ (execs ((lawStmts 6).take 1 ++ lawStmts 7) _) _ _ _
  refine wpC_execs_app ?_
  conv in execs ((lawStmts 6).take 1) _ => arg 1; whnf
  k_steps
  all_goals
    (rename Fr _ _ _ _ => F9)
    (rename News _ _ _ _ => N9)
    (rename Below _ _ _ _ => B)
    (rename Frag.In _ _ => X)
    (rename Top _ _ _ _ _ _ => T)
    show wpAny _ _ (pure Flow.next) _ _ _
    refine wpAny_pure ?_
  · show wpC _ _ (execs ((lawStmts 7).take 4 ++ lawStmts 11) _) _ _ _
    exact wpC_execs_app (wa0 w mean mg mb L a ccd h₀ _ _ _ _ _ 0 0 0 0 0 0 0 0 0 0 0 B F9 X (News.drop1 N9) T aft)
  · show wpC _ _ (execs ((lawStmts 7).take 4 ++ lawStmts 11) _) _ _ _
    exact wpC_execs_app (wa1 w mean mg mb L a ccd h₀ _ _ _ _ _ 0 0 0 _ 0 0 0 _ 0 0 0 B F9 X (News.drop1 N9) T (by assumption) aft)
  · show wpC _ _ (execs ((lawStmts 7).take 4 ++ lawStmts 11) _) _ _ _
    (rename IntsAre _ _ => hI)
    (rename 1 ≤ _ => h1)
    (rename List.length _ ≤ 4 => h4)
    (rename ∀ x ∈ _, (0 : Int) ≤ x => hp)
    have z0 : (0 : Int) ≤ 0 := by decide
    rcases hI with _ | ⟨_, _, hI⟩
    · exact absurd h1 (by simp)
    rcases hI with _ | ⟨_, _, hI⟩
    · exact wpC_execs_app (wb1 w mean mg mb L a ccd h₀ _ _ _ _ _ _ _ _ _ 0 0 0 _ 0 0 0 B F9 X (News.drop1 N9) T (hp _ (.head _)) z0 z0 z0 aft)
    rcases hI with _ | ⟨_, _, hI⟩
    · exact wpC_execs_app (wb2 w mean mg mb L a ccd h₀ _ _ _ _ _ _ _ _ _ _ 0 0 _ _ 0 0 B F9 X (News.drop1 N9) T (hp _ (.head _)) (hp _ (.tail _ (.head _))) z0 z0 aft)
    rcases hI with _ | ⟨_, _, hI⟩
    · exact wpC_execs_app (wb3 w mean mg mb L a ccd h₀ _ _ _ _ _ _ _ _ _ _ _ 0 _ _ _ 0 B F9 X (News.drop1 N9) T (hp _ (.head _)) (hp _ (.tail _ (.head _))) (hp _ (.tail _ (.tail _ (.head _)))) z0 aft)
    rcases hI with _ | ⟨_, _, hI⟩
    · exact wpC_execs_app (wb4 w mean mg mb L a ccd h₀ _ _ _ _ _ _ _ _ _ _ _ _ _ _ _ _ B F9 X (News.drop1 N9) T (hp _ (.head _)) (hp _ (.tail _ (.head _))) (hp _ (.tail _ (.tail _ (.head _)))) (hp _ (.tail _ (.tail _ (.tail _ (.head _))))) aft)
    · exact absurd h4 (by simp only [List.length_cons]; omega)
  · show wpC _ _ (execs ((lawStmts 7).take 4 ++ lawStmts 11) _) _ _ _
    exact wpC_execs_app (wa6 w mean mg mb L a ccd h₀ _ _ _ _ _ _ _ _ 0 0 0 0 _ _ _ 0 B F9 X (News.drop1 N9) T aft)
  · show wpC _ _ (execs ((lawStmts 7).take 4 ++ lawStmts 11) _) _ _ _
    exact wpC_execs_app (wa7 w mean mg mb L a ccd h₀ _ _ _ _ _ _ _ _ 0 0 0 0 _ 0 0 0 B F9 X (News.drop1 N9) T aft)
  · show wpC _ _ (execs ((lawStmts 7).take 3 ++ lawStmts 10) _) _ _ _
    refine wpC_execs_app (wa8 w mean mg mb L a ccd h₀ _ _ _ _ _ _ _ _ 0 0 0 0 _ _ _ 0 B F9 X (News.drop1 N9) T ?_)
    intro h' tk' d n' F8 N8
    clear F9 N9
    show wpC _ _ (execs (lawStmts 10) _) _ _ _
    conv in execs (lawStmts 10) _ => arg 1; whnf
    refine wpC_execs_cons ?_
    refine wpC_If (wpC_of ?_)
    k_steps
    refine wpC_execs_cons ?_
    refine wpC_If ?_
    refine wpC_isTrue_Compare1 ?_
    refine wpC_Call_Name ?_
    k_steps
    rename Fr _ _ _ _ => F9
    rename Frag.In _ _ => X9
    obtain ⟨o, fd, hf⟩ := fn_in (f := 105) X9 F9 (by k_is)
    refine wpC_callWith_es (o := o) (fd := fd) ?_
    simp only [List.map_cons, List.map_nil]
    refine spliced_cons ?_
    k_steps
    refine spliced_cons ?_
    k_steps
    refine spliced_cons ?_
    k_steps
    refine spliced_cons ?_
    k_steps
    refine spliced_nil ⟨hf, ?_⟩
    refine wpC_call ?_
    refine doX w mean mg mb L a ccd h₀ _ _ _ _ _ _ _ _ _ _ B F9 X9 (News.cons_mem N8 (.tail _ (.head _))) T ?_
    intro h' tk' F10 N10
    replace N10 := News.drop1 N10
    clear F9 N8 hf
    dsimp only
    k_steps
    rename Fr _ _ _ _ => F9
    rename News _ _ _ _ => N9
    refine wpC_pure (a := Flow.next) ?_
    refine wpC_pure (a := Flow.next) ?_
    refine aft _ _ _ ?_ F9 (News.sub N9 (.cons _ (.cons _ (.refl _))))
    rfl
end Mine
end
section
open PySem PySem.W PySem.Calls PyProof.Rows
set_option Elab.async false
set_option maxRecDepth 100000
set_option maxHeartbeats 4000000
namespace Mine
section
variable {M : Model} {A : Around} {E : Value → Shared → Prop} {s : Shared} {env : Env}
theorem wpC_callWith_type0 {pos : Pos} {T : String} {Q : Value → Shared → Prop} (h : wpC M A (call (.type T) []) Q E s) : wpC M A (callWith pos (.type T) [] [] []) Q E s := by
  unfold callWith
  refine wpC_bindA (wpAny_holding (PySem.evalArgs_none (wpC_bindA (wpAny_standAt ?_))))
  simp only [List.any_nil, Bool.or_false]
  refine wpC_bindA (wpAny_pure ?_)
  exact wpC_bind (wpC_mono h (fun r s₂ hr => wpC_of (wpAny_bind (wpAny_holding (wpAny_point (wpAny_pure hr))))) fun _ _ x => x)
theorem wpC_callWith_builtin1 {pos : Pos} {id : String} {v : Value} {x : Sem Value} {Q : Value → Shared → Prop} (h : wpAny M A x (fun y s₁ => wpC M A (call (.builtin id) [v, y]) Q E s₁) E s) :
    wpC M A (callWith pos (.builtin id) [v] [(false, x)] []) Q E s := by
  unfold callWith
  refine wpC_bindA (wpAny_holding (evalArgs_plain (spliced_cons (wpAny_mono h (fun y s₁ h₁ => spliced_nil (wpC_bindA (wpAny_standAt ?_))) fun _ _ e => e))))
  simp only [List.any_cons, List.any_nil, Bool.or_false]
  refine wpC_bindA (wpAny_pure ?_)
  exact wpC_bind (wpC_mono h₁ (fun r s₂ hr => wpC_of (wpAny_bind (wpAny_holding (wpAny_point (wpAny_pure hr))))) fun _ _ x => x)
theorem wpC_For {target iter body orelse pos} {Q : Flow → Shared → Prop}
    (h : wpAny M A (eval iter env) (fun x s₁ => wpAny M A (pyIter x) (fun it s₂ =>
      codeC M A (.forLoop target it body orelse env) (fun r s' => match r with | .ok f => Q f s' | .error e => cameBackBy M A env E e s') s₂) E s₁) E s)
    (hs : ∀ x, foldedSetIterable iter env x = pure x := by intro _; rfl) :
    wpC M A (exec (.For target iter body orelse pos) env) Q E s := by
  rw [exec_For]
  refine wpC_bindA (wpAny_standAt (wpC_bindA (wpAny_mono h (fun x s₁ h₁ => wpC_bindA (wpAny_of_eq (hs x) (wpC_bindA (wpAny_standAt (wpC_bindA (wpAny_holding
    (wpAny_mono h₁ (fun it s₂ h₂ => ?_) fun _ _ h' => h'))))))) fun _ _ h' => h')))
  unfold runOwn
  exact wpC_onRaise (wpC_run h₂)
end
section
variable {prog : Program} {w : World} {A : Around} {E : Value → Shared → Prop} {s : Shared} {env : Env}
theorem wpC_Expr {e pos} {Q : Flow → Shared → Prop} (h : wpC (model prog w) A (eval e env) (fun _ => Q .next) E s)
    (hi : interactive env = false := by rfl) (hs : swapsWith e none pos.line env = pure false := by rfl) : wpC (model prog w) A (exec (.Expr e pos) env) Q E s := by
  rw [exec_Expr env e pos hi hs]
  exact wpC_bindA (wpAny_standAt (wpC_bind (wpC_mono h (fun v s' h' => wpC_of (wpAny_dropValue h')) fun _ _ x => x)))
theorem wpC_Call_method {o : Expr} {name : Str} {apos pos : Pos} {args : List Expr} {T id : String} {Q : Value → Shared → Prop}
    (hbase : attributeBase o name env (eval o env) = eval o env)
    (hfew : ((backTo pos (starEach args env)).all (fun x => !x.1) && (backToKw pos (keywordEach [] env)).all (fun x => x.1.isSome)
      && decide (args.length + ([] : List Keyword).length + (if ([] : List Keyword).isEmpty then 0 else 1) < 30)) = true)
    (hline : (apos.endLine == pos.line) = true)
    (pa : PlainAttrs T) (slot : Slot T name id) (hty : typeOf (.builtin id) = pure (.type "method_descriptor"))
    (h : wpAny (model prog w) A (eval o env) (fun ov s₁ => s₁.TypeIs ov T ∧ (∀ a, ov = .ref a → ∃ ob, s₁.heap.get? a = some ob ∧ ob.dict = none) ∧
      wpC (model prog w) A (callWith pos (.builtin id) [ov] (backTo pos (starEach args env)) []) Q E s₁) E s) :
    wpC (model prog w) A (eval (.Call (.Attribute o name apos) args [] pos) env) Q E s := by
  rw [arm_eval_Call, hbase]
  refine wpC_bindA (wpAny_mono h (fun ov s₁ h₁ => ?_) fun _ _ e => e)
  obtain ⟨hT, hd, hc⟩ := h₁
  refine wpC_bindA (wpAny_standAt ?_)
  have hform : methodCallForm (args.length + ([] : List Keyword).length) (backTo pos (starEach args env)) (backToKw pos (keywordEach [] env)) = true := hfew
  have hpos : methodCallPos true o env apos pos = pure pos := by unfold methodCallPos; simp [hline]
  unfold methodCall
  rw [hform]
  refine wpC_bindA (wpAny_holding (getMethod_builtin hT pa slot hty hd ?_))
  exact wpC_bindA (wpAny_of_eq hpos hc)
theorem codeC_forLoop {R : Result → Shared → Prop} {target it body} (I : Nat → Shared → Prop)
    (turn : ∀ n s, I n s → wpAny (model prog w) A (pyNext it) (fun r s₁ => match r with
      | none => R (.ok .next) s₁
      | some v => wpAny (model prog w) A (assign target env v) (fun _ s₂ => wpC (model prog w) A (execs body env) (fun f s₃ => f = .next ∧ ∃ m, m < n ∧ I m s₃) (notedBy (model prog w) A env fun e s' => R (.error e) s') s₂)
          (notedBy (model prog w) A env fun e s' => R (.error e) s') s₁) (notedBy (model prog w) A env fun e s' => R (.error e) s') s)
    (n : Nat) (h : I n s) (ht : ∀ v, letOwnedTupleGo target it v = pure () := by intro _; rfl) : codeC (model prog w) A (.forLoop target it body [] env) R s := by
  refine codeC_loop2 rfl I (fun n s hI => ?_) n h
  show wpC _ A ((forTurn target it body [] env).onRaise (fun x => do noteFrame x env; theTreesLotGoes x)) _ _ s
  refine wpC_noted ?_
  simp only [forTurn]
  refine wpC_bindA (wpAny_standAt (wpC_bindA (wpAny_onRaise (wpAny_mono (turn n s hI) (fun r s₁ h₁ => ?_) fun _ _ h' => wpAny_standAt h'))))
  cases r with
  | none => exact wpC_pure (.inr ⟨rfl, codeC_of (codeAny_block (wpAny_execs_nil h₁))⟩)
  | some v =>
    refine wpC_bindA (wpAny_of_eq (ht v) ?_)
    refine wpC_bindA (wpAny_mono h₁ (fun _ s₂ h₂ => wpC_bind (wpC_mono h₂ (fun f s₃ h₃ => ?_) fun _ _ h' => h')) fun _ _ h' => h')
    obtain ⟨rfl, h₃⟩ := h₃
    exact wpC_pure (.inl ⟨rfl, h₃⟩)
/-- how a turn of a loop under the caller ends -/
structure StepC (h₀ : Heap) (L : Addr) (ads : List Addr) (own : List (Addr × Obj)) (Jn : (Str → Option Value) → List (Addr × Obj) → Prop) (s : Shared) (f : Flow) (s₂ : Shared) : Prop where
  fl : f = .next
  to : ∃ h' tk m₂ news₂, s₂ = { s with heap := h', toks := tk } ∧ Fr h₀ L h' m₂ ∧ News h₀ L h' (news₂ ++ own) ∧ news₂.map (·.1) = ads ∧ Jn m₂ news₂
theorem forListC {h₀ : Heap} {Q : Flow → Shared → Prop} {x : Str} {px pos : Pos} {iter : Expr} {body : List Stmt} {m₀ : Str → Option Value} {ax : Addr} {items : List Value} {kk : Nat} {news : List (Addr × Obj)}
    (J : Nat → (Str → Option Value) → List (Addr × Obj) → Prop) (F : Fr h₀ env.locals s.heap m₀) (N : News h₀ env.locals s.heap news) (hmem : (ax, listOf items.toArray kk) ∈ news) (hh : A.handled = none)
    (hkeep : ∀ i m nw, J i m nw → (ax, listOf items.toArray kk) ∈ nw)
    (hx : env.kindOf x = some .local) (hp : (env.scope.kind == .class || (env.scope.kind == .module && env.locals != env.globals)) = false)
    (hs : ∀ x, foldedSetIterable iter env x = pure x) (hE : PassesOwn (model prog w) A env E)
    (hiter : ∀ Q' : Value → Shared → Prop, (∀ tk, Q' (.ref ax) { s with toks := tk }) → wpAny (model prog w) A (eval iter env) Q' E s) (g0 : J 0 m₀ news)
    (step : ∀ i v m₁ news₁ h tk own, items[i]? = some v → (∀ z ∈ own, ∀ y ∈ news, y.1 ≠ z.1) → J i m₁ news₁ → news₁.map (·.1) = news.map (·.1) → Fr h₀ env.locals h (fun y => if y = x then some v else m₁ y) → News h₀ env.locals h (news₁ ++ own) →
      wpC (model prog w) A (execs body env) (StepC h₀ env.locals (news.map (·.1)) own (J (i + 1)) s) E { s with heap := h, toks := tk })
    (done : ∀ h' tk m' news', Fr h₀ env.locals h' m' → News h₀ env.locals h' news' → J items.length m' news' → Q .next { s with heap := h', toks := tk }) :
    wpC (model prog w) A (exec (.For (.Name x px) iter body [] pos) env) Q E s := by
  refine wpC_For (hiter _ fun tk0 => ?_) hs
  have hax : s.heap.IsList ax items.toArray := ⟨_, (N _ hmem).1, rfl, _, rfl⟩
  have haxlt : @LT.lt Nat _ ax s.heap.objs.size := Heap.lt_size (N _ hmem).1
  have hLlt : @LT.lt Nat _ env.locals s.heap.objs.size := F.ns.lt
  have hne : ax ≠ s.heap.objs.size := Nat.ne_of_lt haxlt
  refine wpAny_pyIter_list hax ?_
  dsimp only
  have up : ∀ b o, s.heap.get? b = some o → (s.heap.push { cls := .type "list_iterator", data := .fields #[.ref ax, .int 0 0] }).get? b = some o := fun b o e => Heap.get?_push_of_some _ e
  have hit : (s.heap.push { cls := .type "list_iterator", data := .fields #[.ref ax, .int 0 0] }).get? s.heap.objs.size = some { cls := .type "list_iterator", data := .fields #[.ref ax, .int 0 0] } := Heap.get?_push_size _ rfl
  generalize hH : s.heap.push { cls := .type "list_iterator", data := .fields #[.ref ax, .int 0 0] } = H at up hit ⊢
  have F1 := F.keeps up
  have N1 := N.grown up
  generalize hI : s.heap.objs.size = I at *
  have h0L : @LE.le Nat _ h₀.objs.size env.locals := F.above
  have hLI : env.locals ≠ I := Nat.ne_of_lt hLlt
  have nI : h₀.get? I = none := Heap.get?_none_of_le (Nat.le_trans h0L (Nat.le_of_lt hLlt))
  have hnI : ∀ p ∈ news, p.1 ≠ I := fun p hp => by
    have : @LT.lt Nat _ p.1 s.heap.objs.size := Heap.lt_size (N p hp).1
    rw [hI] at this
    exact Nat.ne_of_lt this
  have hnI' : ∀ nw : List (Addr × Obj), nw.map (·.1) = news.map (·.1) → ∀ p ∈ nw, p.1 ≠ I := fun nw e p hp => by
    have : p.1 ∈ news.map (·.1) := e ▸ List.mem_map_of_mem hp
    obtain ⟨q, hq, e⟩ := List.mem_map.mp this
    exact e ▸ hnI q hq
  have W := Walks.list (prog := prog) (w := w) (A := A) hh I ax hne items.toArray
  refine codeC_forLoop (fun k s' => ∃ h tk m nw i, s' = { s with heap := h, toks := tk } ∧ (h.IsListIter I ax i ∧ h.IsList ax items.toArray) ∧ Fr h₀ env.locals h m ∧ News h₀ env.locals h nw ∧ nw.map (·.1) = news.map (·.1) ∧ J i m nw ∧ i ≤ items.length ∧ k = items.length + 1 - i) ?_ (items.length + 1)
    ⟨H, tk0, m₀, news, 0, rfl, ⟨⟨_, hit, rfl, rfl⟩, hax.at fun o e => up _ _ e⟩, F1, N1, rfl, g0, Nat.zero_le _, rfl⟩
  rintro k s' ⟨h, tk, m, nw, i, rfl, hst, F2, N2, hads, hJ, hi, rfl⟩
  have next : ∀ h₁ : Heap, (∀ b o, b ∉ [I] → h.get? b = some o → h₁.get? b = some o) → Fr h₀ env.locals h₁ m ∧ News h₀ env.locals h₁ nw := fun h₁ hk₁ =>
    ⟨⟨F2.ns.at' fun o e => hk₁ _ o (by simp [hLI]) e, fun b o e => hk₁ b o (fun q => by rw [List.mem_singleton.mp q, nI] at e; cases e) (F2.keep b o e), F2.above⟩,
      fun p hp => ⟨hk₁ _ _ (by simp [hnI' nw hads p hp]) (N2 p hp).1, (N2 p hp).2⟩⟩
  by_cases hlt : i < items.length
  · refine W.item i _ _ _ (by simpa using hlt) hst fun v h₁ tk₁ hP hst₁ hk₁ => ?_
    obtain ⟨F3, N3⟩ := next h₁ hk₁
    have hv : items[i]? = some v := by rw [List.getElem?_toArray] at hP; exact hP
    dsimp only
    refine wpAny_assign_Name (wpAny_storeName_local hx F3.ns (fun h₂ hn₂ hs₂ => ?_) hp)
    have F4 := F3.set hn₂ hs₂
    have N4 := N3.set hs₂
    have hIo : ∃ oI, h₂.get? I = some oI ∧ ∀ g : Heap, g.get? I = some oI → g.IsListIter I ax (i + 1) := by
      obtain ⟨o, ho, r⟩ := hst₁.1
      exact ⟨o, (hs₂.2 I (Ne.symm hLI)).trans ho, fun g hg => ⟨o, hg, r⟩⟩
    obtain ⟨oI, hoI, hoIg⟩ := hIo
    have N5 : News h₀ env.locals h₂ (nw ++ [(I, oI)]) := fun p hp => by
      rcases List.mem_append.mp hp with hp | hp
      · exact N4 p hp
      · rw [List.mem_singleton.mp hp]
        exact ⟨hoI, Ne.symm hLI, nI⟩
    refine wpC_mono (step i v m nw h₂ _ [(I, oI)] hv (fun z hz y hy => by rw [List.mem_singleton.mp hz]; exact hnI y hy) hJ hads F4 N5) (fun f s₃ h₃ => ?_) hE
    obtain ⟨rfl, h₃', tk₃, m₂, nw₂, rfl, F6, N6, ha₂, hJ₂⟩ := h₃
    refine ⟨rfl, items.length + 1 - (i + 1), by omega, h₃', tk₃, m₂, nw₂, i + 1, rfl, ⟨hoIg _ (N6 _ (List.mem_append_right _ (.head _))).1, ?_⟩, F6, fun p hp => N6 p (List.mem_append_left _ hp), ha₂, hJ₂, hlt, rfl⟩
    exact ⟨_, (N6 _ (List.mem_append_left _ (hkeep _ _ _ hJ₂))).1, rfl, _, rfl⟩
  · have hin : i = items.length := by omega
    subst hin
    refine W.done _ _ _ (by simpa using hst) fun h₁ tk₁ hk₁ => ?_
    obtain ⟨F3, N3⟩ := next h₁ hk₁
    exact done h₁ tk₁ m nw F3 N3 hJ
end
end Mine
end
section
open PySem PySem.W PySem.Calls PyProof.Rows
set_option Elab.async false
set_option maxRecDepth 100000
set_option maxHeartbeats 4000000
namespace Mine
def colsOf (P : List (List Int)) : List UInt8 := octets (P.flatMap fun r => r.take 3)
def alphOf (P : List (List Int)) : List UInt8 := octets (P.filterMap fun r => r[3]?)
theorem cols_snoc {P : List (List Int)} {i : Nat} {ns : List Int} (e : P[i]? = some ns) : colsOf (P.take (i + 1)) = colsOf (P.take i) ++ octets (ns.take 3) := by
  rw [List.take_add_one, e]
  simp [colsOf, octets]
theorem alph_snoc4 {P : List (List Int)} {i : Nat} {ns : List Int} {n : Int} (e : P[i]? = some ns) (h : ns[3]? = some n) : alphOf (P.take (i + 1)) = alphOf (P.take i) ++ [n.toNat.toUInt8] := by
  rw [List.take_add_one, e]
  simp [alphOf, octets, h]
theorem alph_snoc3 {P : List (List Int)} {i : Nat} {ns : List Int} (e : P[i]? = some ns) (h : ns[3]? = none) : alphOf (P.take (i + 1)) = alphOf (P.take i) := by
  rw [List.take_add_one, e]
  simp [alphOf, octets, h]
theorem cols_le (P : List (List Int)) : (colsOf P).length ≤ 3 * P.length := by
  unfold colsOf octets
  rw [List.length_map]
  induction P with
  | nil => simp
  | cons r P ih =>
    rw [List.flatMap_cons, List.length_append, List.length_cons, List.length_take]
    omega
theorem alph_le (P : List (List Int)) : (alphOf P).length ≤ P.length := by
  unfold alphOf octets
  rw [List.length_map]
  exact List.length_filterMap_le _ _
theorem ints_at {vs : List Value} {ns : List Int} (h : IntsAre vs ns) : ∀ {k : Nat} {n : Int}, ns[k]? = some n → ∃ t, vs[k]? = some (.int n t) := by
  induction h with
  | nil => intro k n e; simp at e
  | cons a b _ ih =>
    intro k n e
    cases k with
    | zero => exact ⟨b, by simpa using e⟩
    | succ k => simpa using ih (by simpa using e)
theorem ints_take {vs : List Value} {ns : List Int} (h : IntsAre vs ns) : ∀ k, IntsAre (vs.take k) (ns.take k) := by
  induction h with
  | nil => intro k; simp; exact .nil
  | cons a b _ ih =>
    intro k
    cases k with
    | zero => exact .nil
    | succ k => exact .cons a b (ih k)
section
variable {prog : Program} {w : World} {A A₀ : Around} {s : Shared} {K : Frag} {L : Addr} {h₀ base : Heap} {m mg mb : Str → Option Value} {news : List (Addr × Obj)} {p : Program} {loose : List Str} {mean : ExcName → Option Value}
theorem codeC_def {env : Env} {outer : List Env} {R : Result → Shared → Prop} {name qual : Str} {params : Arguments} {body : List Stmt} {scope : Scope} {dV kV doc pm cdv ct oc : Value} {an od : Option Addr} {osl : Array (Option Value)} {f : Addr} {args : Args} {binds : List (Str × Value)}
    (B : Below A₀ base outer h₀) (F : Fr h₀ L s.heap m) (X₀ : K.In h₀) (N : News h₀ L s.heap news) (T : Top p loose mean mg mb h₀) (hA : A.frames = some (env :: outer)) (hf : env.frame = some L) (hke : env.scope.kind = .function)
    (ho : K.lookup f = some ⟨oc, od, .func (fnOf name qual params body scope dV kV doc pm an cdv ct), osl⟩) (hcd : codeIn K cdv qual = true) (hroom : A.depth < recursionLimit)
    (hbind : BindsTo s (fnOf name qual params body scope dV kV doc pm an cdv ct) args binds) (hloc : ∀ y ∈ binds, scope.names.lookup y.1 = some .local)
    (h : ∀ g L' h₁, Fr h₀ L g m → Fr g L' h₁ (fun y => binds.reverse.lookup y) → News g L' h₁ news → Below A base (env :: outer) g → K.In g → Top p loose mean mg mb g →
      wpC (model prog w) (A.deeper (envOf qual scope L' f cdv)) (execs body (envOf qual scope L' f cdv))
        (fun fl s' => LeaveK h₀ L m g R (match fl with | .ret v => v | _ => .none) s')
        (fun e s' => wpAny (model prog w) (A.deeper (envOf qual scope L' f cdv)) (leaving (envOf qual scope L' f cdv) e) (fun _ s'' => R (.error e) s'') (fun e' s'' => R (.error e') s'') s')
        { s with heap := h₁, toks := s.toks + binds.length })
    (hco : scope.isCoroutine = false) (hgen : scope.isGenerator = false) (hk : scope.kind = .function)
    (hcell : ∀ x ∈ scope.names, x.2 ≠ .cell) : codeC (model prog w) A (.call (.ref f) args) R s :=
  callC_plain (cl := []) B F N T.nolimit hA hf hke ((X₀.keeps F.keep) _ _ ho) rfl (codeRec_of (X₀.keeps F.keep) hcd) hroom hbind hloc (fun g L' h₁ FG F' N' B' st _ => h g L' h₁ FG F' N' B' (X₀.keeps st) (T.keeps st)) hcell hco hgen hk
end
end Mine
end
section
open PySem PySem.W PySem.Calls PyProof.Rows
set_option Elab.async false
set_option maxRecDepth 100000
set_option maxHeartbeats 4000000
namespace Mine
theorem slotArgs_get (a b : Value) : slotArgs "__getitem__" 1 ⟨[a, b], []⟩ = pure (a, [b]) := by rfl
section
variable {prog : Program} {w : World} {A : Around} {E : Value → Shared → Prop} {s : Shared}
theorem ba_type {a : Addr} {b : Array UInt8} (ha : s.heap.get? a = some (baOf b)) : s.TypeIs (.ref a) "bytearray" := ⟨_, ha, rfl⟩
theorem ba_len_body {a : Addr} {b : Array UInt8} {Q : Value → Shared → Prop} (ha : s.heap.get? a = some (baOf b)) (hfit : (b.size : Int) < 2 ^ 63)
    (h : Q (.int b.size (s.toks + 1)) { s with toks := s.toks + 1 + 1 }) : wpAny (model prog w) A (Builtin.«len» ⟨[.ref a], []⟩) (fun fin s' => ∃ r, fin = .done (.ret r) ∧ Q r s') E s := by
  unfold Builtin.«len»
  refine wpAny_bind (m := oneArg "len" _) (wpAny_pure ?_)
  refine wpAny_bind (m := callSpecial? (.ref a) (Str.ofString "__len__")) (wpAny_callSpecial?_slot (name := Str.ofString "__len__") (ba_type ha) BA.slotLen
    (wpAny_call_entry BA.slotLen (ba_type ha) BA.entryLen ?_ (BA.argsLen _)))
  show wpAny _ _ (do let (self, _) ← slotArgs "__len__" 0 ⟨[.ref a], []⟩; retInt (← Builtin.Bytes.payload self).size) _ _ s
  refine wpAny_bind (wpAny_of_eq (a := (.ref a, [])) rfl ?_)
  refine wpAny_bind (ba_payload ha ?_)
  refine wpAny_bind (wpAny_mkInt (wpAny_pure ⟨_, rfl, ?_⟩))
  refine wpAny_bind (wpAny_holding (wpAny_pure ?_))
  refine wpAny_bind (wpAny_letGo ?_)
  show wpAny _ _ (if ((b.size : Nat) : Int) < 0 then _ else _) _ _ _
  rw [if_neg (by omega)]
  show wpAny _ _ (if ((b.size : Nat) : Int) ≥ 2 ^ 63 then _ else _) _ _ _
  rw [if_neg (by omega)]
  exact wpAny_bind (wpAny_mkInt (wpAny_pure ⟨_, rfl, h⟩))
theorem ba_len {a : Addr} {b : Array UInt8} {Q : Value → Shared → Prop} (ha : s.heap.get? a = some (baOf b)) (hfit : (b.size : Int) < 2 ^ 63)
    (h : Q (.int b.size (s.toks + 1)) { s with toks := s.toks + 1 + 1 }) : wpAny (model prog w) A (call (.builtin "len") [.ref a]) Q E s :=
  Calls.call_function_entry kind_len plain_len entry_len (args_len1 _) (ba_len_body ha hfit h)
theorem ba_truthy {a : Addr} {b : Array UInt8} {Q : Bool → Shared → Prop} (ha : s.heap.get? a = some (baOf b)) (hfit : (b.size : Int) < 2 ^ 63)
    (h : Q ((b.size : Int) != 0) { s with toks := s.toks + 1 + 1 }) : wpAny (model prog w) A (truthy (.ref a)) Q E s := by
  have key : wpAny (model prog w) A (runValue (.builtin "len" ⟨[.ref a], []⟩)) (fun r s' => r = .int b.size (s.toks + 1) ∧ Q ((b.size : Int) != 0) s') E s := by
    refine wpAny_runValue (codeAny_builtin entry_len ?_)
    rw [Around.under_plainId plain_len _]
    exact wpAny_mono (ba_len_body (Q := fun r s' => r = .int b.size (s.toks + 1) ∧ Q ((b.size : Int) != 0) s') ha hfit ⟨rfl, h⟩)
      (fun fin s' h' => by obtain ⟨r, rfl, hq⟩ := h'; exact hq) fun _ _ e => e
  unfold truthy
  refine wpAny_bind (wpAny_callSpecial?_none (name := Str.ofString "__bool__") (ba_type ha) BA.noBool ?_)
  refine wpAny_bind (wpAny_specialOf (name := Str.ofString "__len__") (ba_type ha) BA.slotLen.lookup ?_)
  exact wpAny_bind (wpAny_mono key (fun r s' h' => by obtain ⟨rfl, hq⟩ := h'; exact wpAny_pure hq) fun _ _ e => e)
theorem ba_subscript_int {M : Model} {k : Int} {t : Tok} {Q : Option Int → Shared → Prop} (hfit : Builtin.Bytes.fitsIndex k = true) (h : Q (some k) s) : wpAny M A (Builtin.Bytes.subscript? (.int k t)) Q E s := by
  unfold Builtin.Bytes.subscript?
  refine wpAny_bind (wpAny_specialOf (T := "int") (typeIs_int s k t) int_index ?_)
  show wpAny M A (asIndex (.int k t) >>= _) Q E s
  refine wpAny_bind (wpAny_of_eq (a := k) rfl ?_)
  show wpAny M A (if (!Builtin.Bytes.fitsIndex k) = true then _ else _) Q E s
  rw [if_neg (by rw [hfit]; decide)]
  exact wpAny_pure h
theorem ba_item {a : Addr} {b : Array UInt8} {k : Nat} {t : Tok} {x : UInt8} {Q : Value → Shared → Prop} (ha : s.heap.get? a = some (baOf b)) (hk : b[k]? = some x) (hfit : (k : Int) < 2 ^ 63)
    (h : Q (.int x.toNat (s.toks)) { s with toks := s.toks + 1 }) : wpAny (model prog w) A (getItem (.ref a) (.int (k : Int) t)) Q E s := by
  have hf : Builtin.Bytes.fitsIndex (k : Int) = true := by
    unfold Builtin.Bytes.fitsIndex
    simp only [Bool.and_eq_true, decide_eq_true_eq]
    omega
  clear hfit
  unfold getItem
  try with_reducible refine wpAny_holding ?_
  first | refine wpAny_bind (wpAny_pure ?_) | skip
  refine wpAny_bind (wpAny_sequenceKey (ba_type ha) (by decide) ?_)
  refine wpAny_bind (wpAny_callSpecial?_slot (name := Str.ofString "__getitem__") (ba_type ha) BA.slotGetitem
    (wpAny_call_entry BA.slotGetitem (ba_type ha) BA.entryGetitem ?_ (BA.argsGetitem _ _)))
  show wpAny _ _ (slotArgs "__getitem__" 1 ⟨[.ref a, .int (k : Int) t], []⟩ >>= _) _ _ s
  refine wpAny_bind ?_
  rw [slotArgs_get]
  refine wpAny_pure ?_
  dsimp only
  refine wpAny_bind ?_
  generalize hkk : (k : Int) = kk at hf ⊢
  refine ba_subscript_int hf ?_
  subst hkk
  dsimp only
  refine wpAny_bind (ba_payload ha ?_)
  have hlt : k < b.size := (Array.getElem?_eq_some_iff.mp hk).1
  have e : (seqIndex? (k : Int) b.size).bind (fun x => b[x]?) = some x := by
    have : seqIndex? (k : Int) b.size = some k := by
      unfold seqIndex?
      simp
      omega
    rw [this]; exact hk
  rw [e]
  exact wpAny_bind (wpAny_mkInt (wpAny_pure ⟨_, rfl, wpAny_pure h⟩))
def baPart (v : Value) : Sem Value := do
  if v == .none then return .none
  if (← specialOf v "__index__").isNone then
    rule "bytes.slice.part-no-index"; raiseError "TypeError" "slice indices must be integers or None or have an __index__ method"
  return rawInt (← asIndex v)
theorem ba_sliceParts (s : Value) : Builtin.Bytes.sliceParts s = (do
    let step ← baPart (← field s 2)
    if step == rawInt 0 then rule "bytes.slice.step-zero"; raiseError "ValueError" "slice step cannot be zero"
    let first ← baPart (← field s 0)
    let last ← baPart (← field s 1)
    return (first, last, step)) := rfl
theorem ba_part {M : Model} {v : Value} {k : Option Int} {Q : Value → Shared → Prop} (hv : IsPart v k) (h : Q (rawPart k) s) : wpAny M A (baPart v) Q E s := by
  cases hv with
  | none => exact wpAny_pure h
  | int i t =>
    unfold baPart
    rw [if_neg (show ¬ ((Value.int i t == Value.none) = true) from Bool.false_ne_true)]
    refine wpAny_bind (wpAny_specialOf (T := "int") (typeIs_int s i t) int_index ?_)
    simp only [Option.isNone_some, Bool.false_eq_true, if_false]
    exact wpAny_bind (wpAny_of_eq (a := i) rfl (wpAny_pure h))
/-- colours[i : i + n] within the bounds -/
theorem ba_slice {a sl : Addr} {b : Array UInt8} {i j : Nat} {t1 t2 : Tok} {Q : Value → Shared → Prop} (ha : s.heap.get? a = some (baOf b)) (hs : s.heap.IsSliceOf sl (.int (i : Int) t1) (.int (j : Int) t2) .none)
    (hij : i ≤ j) (hj : j ≤ b.size) (hsz : b.size ≤ sizeLine)
    (h : Q (.ref s.heap.objs.size) { s with heap := s.heap.push (baOf ((b.toList.drop i).take (j - i)).toArray) }) : wpAny (model prog w) A (getItem (.ref a) (.ref sl)) Q E s := by
  obtain ⟨os, hos, hcs, hds⟩ := id hs
  have hTs : s.TypeIs (.ref sl) "slice" := ⟨os, hos, hcs⟩
  unfold getItem
  try with_reducible refine wpAny_holding ?_
  first | refine wpAny_bind (wpAny_pure ?_) | skip
  refine wpAny_bind (wpAny_sequenceKey (ba_type ha) (by decide) ?_)
  refine wpAny_bind (wpAny_callSpecial?_slot (name := Str.ofString "__getitem__") (ba_type ha) BA.slotGetitem
    (wpAny_call_entry BA.slotGetitem (ba_type ha) BA.entryGetitem ?_ (BA.argsGetitem _ _)))
  show wpAny _ _ (slotArgs "__getitem__" 1 ⟨[.ref a, .ref sl], []⟩ >>= _) _ _ s
  refine wpAny_bind ?_
  rw [slotArgs_get]
  refine wpAny_pure ?_
  dsimp only
  refine wpAny_bind ?_
  unfold Builtin.Bytes.subscript?
  refine wpAny_bind (wpAny_specialOf hTs slice_no_index ?_)
  simp only [Option.isNone_none, if_true]
  refine wpAny_pure ?_
  dsimp only
  refine wpAny_bind (wpAny_typeOf hTs ?_)
  rw [if_neg (by decide)]
  rw [ba_sliceParts]
  refine wpAny_bind (wpAny_bind (wpAny_field hos hds (x := .none) rfl (wpAny_bind (ba_part .none ?_))))
  rw [if_neg (by decide)]
  refine wpAny_bind (wpAny_field hos hds (x := .int (i : Int) t1) rfl (wpAny_bind (ba_part (.int _ _) ?_)))
  refine wpAny_bind (wpAny_field hos hds (x := .int (j : Int) t2) rfl (wpAny_bind (ba_part (.int _ _) (wpAny_pure ?_))))
  dsimp only
  refine wpAny_bind (ba_payload ha ?_)
  refine wpAny_bind (wpAny_of_eq (sliceIndices_raw (some (i : Int)) (some (j : Int)) none b.size (by simp)) ?_)
  have e : sliceBounds (some (i : Int)) (some (j : Int)) none b.size = ((i : Int), (j : Int), 1) := by
    simp only [sliceBounds, Option.getD_none]
    have h1 : ¬ ((i : Int) < 0) := by omega
    have h2 : ¬ ((j : Int) < 0) := by omega
    simp only [h1, h2, if_false, show (1 : Int) > 0 by decide, if_true]
    congr 1
    · omega
    · congr 1; omega
  rw [e]
  dsimp only
  have e2 : Builtin.Bytes.sliced b (i : Int) (j : Int) 1 = ((b.toList.drop i).take (j - i)).toArray := by
    unfold Builtin.Bytes.sliced
    rw [sliceRange_one, pick_run]
  rw [e2]
  refine wpAny_bind (ba_new ?_ (wpAny_pure ⟨_, rfl, wpAny_pure h⟩))
  rw [List.size_toArray, List.length_take, List.length_drop]
  simp only [Array.length_toList]
  omega
end
end Mine
end
section
open PySem PySem.W PySem.Calls PyProof.Rows
set_option Elab.async false
set_option maxRecDepth 100000
set_option maxHeartbeats 2000000
namespace Mine
set_option pp.deepTerms false in
theorem mpc : ∀ (w : World) (mean : ExcName → Option Value) (mg mb : Str → Option Value) (L a : Addr) (ccd : Value) (h₀ : Heap) (m : Str → Option Value) (news : List (Addr × Obj)) (s : Shared) (Q : Value → Shared → Prop) (E : Value → Shared → Prop) (e : Addr) (n : Nat) (es : List (Addr × Obj)) (P : List (List Int))
  (_ : Below callerA h₀ [] h₀) (_ : Fr h₀ L s.heap m) (_ : (hd.heap_39 w.params).In h₀) (_ : News h₀ L s.heap ((e, listOf (refs es).toArray n) :: (es ++ news))) (_ : Top hd.view_39 (looseW hd.view_39 []) mean mg mb h₀) (_ : Ents es P) (_ : okPal P = true)
  (_ : ∀ (h' : Heap) (tk' : Tok) (p t D : Addr) (al : Value), (alphOf P = [] → al = .none) → (alphOf P ≠ [] → al = .ref t) → Fr h₀ L h' m → News h₀ L h' ((D, tupOf [.ref p, al]) :: (t, baOf (alphOf P).toArray) :: (p, baOf (colsOf P).toArray) :: (e, listOf (refs es).toArray n) :: (es ++ news)) → Q (.ref D) { s with heap := h', toks := tk' }),
  wpC (model Challenge.rw_ax6025_01.row.prog w) (callerA.deeper (lawEnv L a ccd)) (call (.ref 74) [.ref e]) Q E s := by
  w_on
  k_fill
  intros
  rename_i w mean mg mb L a ccd h₀ m news s Q E e n es P B F X N T hE hok hQ
  refine wpC_call ?_
  refine' codeC_def ?k1 ?k2 ?k3 ?k4 ?k5 ?kA ?kF ?kK ?k6 ?k7 ?k8 ?k9 ?kB ?_ ?c2 ?c3 ?c4 ?c5
  case kA => exact rfl
  case kF => exact rfl
  case kK => exact rfl
  case k1 => k_asm
  case k2 => k_asm
  case k3 => k_asm
  case k4 => k_asm
  case k5 => k_asm
  case k6 => k_is
  case k7 => k_is
  case k8 => k_room
  case k9 => first | exact BindsTo.of_eq rfl | exact binds_K (by k_in) rfl (by k_is) rfl rfl rfl
  case c5 => decide
  case kB => exact locs rfl
  case c2 => exact rfl
  case c3 => exact rfl
  case c4 => exact rfl
  k_whole
  intro g' L' h' FG' F' N' B' X' T'
  (try dsimp only)
  (try k_lift B')
  (try k_fold)
  refine wpC_execs_cons ?_
  refine wpC_Assign_Name ?_
  refine wpC_Call_Name ?_
  k_steps
  rename Fr _ _ _ _ => F1
  rename News _ _ _ _ => N1
  refine wpC_callWith_type0 ?_
  refine call_baN F1 N1 ?_
  intro p hp F2 N2 np
  clear F1 N1
  k_steps
  refine wpC_execs_cons ?_
  refine wpC_Assign_Name ?_
  refine wpC_Call_Name ?_
  k_steps
  rename Fr _ _ _ _ => F1
  rename News _ _ _ _ => N1
  refine wpC_callWith_type0 ?_
  refine call_baN F1 N1 ?_
  intro t ht F2 N2 nt
  clear F1 N1
  k_steps
  rename Fr _ _ _ _ => F1
  rename News _ _ _ _ => N1
  refine wpC_execs_cons ?_
  obtain ⟨hp0, hp1, _⟩ := okPal_parts hok
  have hlE := hE.length
  have hline : 1024 ≤ sizeLine := by decide
  refine forListC (fun i m nw => m (Str.ofString "t") = some (.ref t) ∧ m (Str.ofString "p") = some (.ref p) ∧ nw = (t, baOf (alphOf (P.take i)).toArray) :: (p, baOf (colsOf (P.take i)).toArray) :: (e, listOf (refs es).toArray n) :: (es ++ news)) F1 N1 (.tail _ (.tail _ (.head _))) rfl
    (by rintro i m nw ⟨_, _, rfl⟩; exact .tail _ (.tail _ (.head _))) rfl rfl (by intro _; rfl) (by passes_own) ?iter ⟨rfl, rfl, by simp only [List.take_zero]; rfl⟩ ?step ?done
  case iter =>
    intro Q' hQ'
    k_steps
    exact hQ' _
  case step =>
    rintro i v m1 nw h1 tk own hv hown ⟨e1, e2, rfl⟩ hads F5 N5
    rw [two_known e1 e2] at F5
    obtain ⟨x, vs, ns, rfl, hmem, hns, hI9, h5⟩ := hE.get hv
    obtain ⟨hlen, hrange⟩ := okPal_row hok hns
    clear F1 N1
    dsimp only
    refine wpC_execs_cons ?_
    refine wpC_Expr ?_
    refine wpC_Call_method (T := "bytearray") (id := "bytearray.extend") rfl rfl rfl BA.plainAttrs BA.slotExtend BA.typeExtend ?_
    k_dflt (refine' ld ?k1 ?k2 ?_; (case k1 => exact F5); (case k2 => exact rfl))
    have hpo := (N5 (p, _) (.tail _ (.head _))).1
    refine ⟨⟨_, hpo, rfl⟩, fun b hb => ⟨_, (by cases hb; exact hpo), rfl⟩, ?_⟩
    refine wpC_callWith_builtin1 ?_
    k_steps
    have hxm := (N5 (x, _) (List.mem_append_left _ (.tail _ (.tail _ (.tail _ (List.mem_append_left _ hmem)))))).1
    have hlv : vs.length = 3 ∨ vs.length = 4 := by rw [hI9.length]; exact hlen
    k_dflt (refine' slice03N F5 N5 hxm hlv ?_)
    intro D h2 F6 N6 hD
    have hi : i < P.length := (List.getElem?_eq_some_iff.mp hns).1
    have hpt : ∀ z ∈ (e, listOf (refs es).toArray n) :: (es ++ news) ++ own, z.1 ≠ p ∧ z.1 ≠ t := fun z hz => by
      rcases List.mem_append.mp hz with hz | hz
      · exact ⟨np z hz, nt z (.tail _ hz)⟩
      · exact ⟨Ne.symm (hown z hz (p, _) (.tail _ (.head _))), Ne.symm (hown z hz (t, _) (.head _))⟩
    refine ba_extendN (q := [(t, _)]) F6 N6 (fun z hz => by rw [List.mem_singleton.mp hz]; exact Ne.symm (nt (p, _) (.head _))) (fun z hz => (hpt z hz).1) hD (ints_take hI9 3) (fun x hx => hrange x (List.mem_of_mem_take hx)) ?_ rfl ?_
    · have h9 := cols_le (P.take i)
      rw [List.size_toArray, List.length_take]
      rw [List.length_take] at h9
      omega
    intro h3' tk3 F7 N7
    have hcols : (colsOf (P.take i)).toArray ++ (octets (ns.take 3)).toArray = (colsOf (P.take (i + 1))).toArray := by rw [cols_snoc hns]; simp
    rw [hcols] at N7
    clear F5 F6 N5 N6
    refine wpC_execs_cons ?_
    refine wpC_If (wpC_of ?_)
    k_steps
    have hx7 := (N7 (x, _) (.tail _ (.tail _ (.tail _ (List.mem_append_left _ (List.mem_append_left _ hmem)))))).1
    refine len_ints hx7 hI9 h5 ?_
    k_steps
    · obtain ⟨n3, hn3⟩ : ∃ n3, ns[3]? = some n3 := ⟨ns[3]'(by omega), List.getElem?_eq_getElem _⟩
      obtain ⟨t3, hv3⟩ := ints_at hI9 hn3
      obtain ⟨r0, r1⟩ := hrange n3 (List.mem_of_getElem? hn3)
      refine wpC_execs_cons ?_
      refine wpC_Expr ?_
      refine wpC_Call_method (T := "bytearray") (id := "bytearray.append") rfl rfl rfl BA.plainAttrs BA.slotAppend BA.typeAppend ?_
      k_dflt (refine' ld ?k1 ?k2 ?_; (case k1 => exact F7); (case k2 => exact rfl))
      have hto := (N7 (t, _) (.head _)).1
      refine ⟨⟨_, hto, rfl⟩, fun b hb => ⟨_, (by cases hb; exact hto), rfl⟩, ?_⟩
      refine wpC_callWith_builtin1 ?_
      k_steps
      have h4 : ns.length = 4 := by omega
      k_dflt (refine' item_tupleT (j := 3) ⟨_, hx7, rfl, _, rfl⟩ ?ia ?ib ?ic hv3 ?_)
      case ia => decide
      case ib => decide
      case ic => (rw [hI9.length, h4]; rfl)
      refine ba_appendN (q := []) F7 N7 (fun z hz => nomatch hz) (fun z hz => ?_) r0 r1 ?_ ?_
      · rcases List.mem_cons.mp hz with rfl | hz
        · exact nt (p, baOf #[]) (.head _)
        · exact (hpt z hz).2
      · have h9 := alph_le (P.take i)
        rw [List.size_toArray]
        rw [List.length_take] at h9
        omega
      intro h5 F8 N8
      have halph : (alphOf (P.take i)).toArray.push n3.toNat.toUInt8 = (alphOf (P.take (i + 1))).toArray := by rw [alph_snoc4 hns hn3]; simp
      rw [halph] at N8
      dsimp only
      refine wpC_pure (a := Flow.next) ?_
      refine wpC_pure (a := Flow.next) ?_
      exact ⟨rfl, h5, _, _, (t, baOf (alphOf (P.take (i + 1))).toArray) :: (p, baOf (colsOf (P.take (i + 1))).toArray) :: (e, listOf (refs es).toArray n) :: (es ++ news), rfl, F8, N8, rfl, rfl, rfl, rfl⟩
    · have h3 : ns.length = 3 := by omega
      have halph : alphOf (P.take (i + 1)) = alphOf (P.take i) := alph_snoc3 hns (List.getElem?_eq_none (by omega))
      rw [← halph] at N7
      refine wpC_pure (a := Flow.next) ?_
      refine wpC_pure (a := Flow.next) ?_
      exact ⟨rfl, h3', _, _, (t, baOf (alphOf (P.take (i + 1))).toArray) :: (p, baOf (colsOf (P.take (i + 1))).toArray) :: (e, listOf (refs es).toArray n) :: (es ++ news), rfl, F7, N7, rfl, rfl, rfl, rfl⟩
  case done =>
    rintro h9 tk9 m9 nw9 F9 N9 ⟨e1, e2, rfl⟩
    rw [two_known e1 e2] at F9
    rw [refs_length, hlE, List.take_length] at N9
    clear F1 N1
    dsimp only
    refine wpC_of ?_
    k_steps
    have hfit : (((alphOf P).toArray.size : Nat) : Int) < 2 ^ 63 := by
      have h9 := alph_le P
      rw [List.size_toArray]
      omega
    refine ba_truthy (N9 (t, _) (.head _)).1 hfit ?_
    by_cases ha : alphOf P = []
    · have e0 : ((((alphOf P).toArray.size : Nat) : Int) != 0) = false := by rw [ha]; rfl
      rw [e0]
      k_steps
      rename Fr _ _ _ _ => F8
      rename News _ _ _ _ => N8
      exact hQ _ _ p t _ .none (fun _ => rfl) (fun q => absurd ha q) F8 N8
    · have e0 : ((((alphOf P).toArray.size : Nat) : Int) != 0) = true := by
        rw [List.size_toArray, bne_iff_ne]
        have : (alphOf P).length ≠ 0 := fun q => ha (List.length_eq_zero_iff.mp q)
        omega
      rw [e0]
      k_steps
      rename Fr _ _ _ _ => F8
      rename News _ _ _ _ => N8
      exact hQ _ _ p t _ (.ref t) (fun q => absurd q ha) (fun _ => rfl) F8 N8
end Mine
end
section
open PySem PySem.W PySem.Calls PyProof.Rows
set_option Elab.async false
set_option maxRecDepth 100000
namespace Mine
def fours (P : List (List Int)) : Nat := (P.filter fun r => r.length == 4).length
/-- the int of an octet -/
def oct (x : UInt8) : Int := (x.toNat : Int)
theorem oct_of {n : Int} (h0 : 0 ≤ n) (h1 : n ≤ 255) : oct n.toNat.toUInt8 = n := by
  unfold oct
  have : n.toNat < 256 := by omega
  rw [show n.toNat.toUInt8 = UInt8.ofNat n.toNat from rfl, UInt8.toNat_ofNat_of_lt' (by simpa using this)]
  omega
theorem octs_of {ns : List Int} (h : ∀ n ∈ ns, 0 ≤ n ∧ n ≤ 255) : (octets ns).map oct = ns := by
  induction ns with
  | nil => rfl
  | cons n ns ih =>
    show oct _ :: (octets ns).map oct = _
    rw [oct_of (h n (.head _)).1 (h n (.head _)).2, ih fun m hm => h m (.tail _ hm)]
theorem rows34 {P : List (List Int)} (h : okPal P = true) : ∀ r ∈ P, (r.length = 3 ∨ r.length = 4) ∧ ∀ x ∈ r, 0 ≤ x ∧ x ≤ 255 := fun r hr => by
  obtain ⟨i, hi, e⟩ := List.getElem_of_mem hr
  exact okPal_row h (i := i) (by rw [List.getElem?_eq_getElem hi, e])
theorem cols_len : ∀ {P : List (List Int)}, (∀ r ∈ P, r.length = 3 ∨ r.length = 4) → (colsOf P).length = 3 * P.length
  | [], _ => rfl
  | r :: P, h => by
    have h1 := cols_len (P := P) fun r hr => h r (.tail _ hr)
    have h2 := h r (.head _)
    unfold colsOf octets at *
    rw [List.length_map] at *
    rw [List.flatMap_cons, List.length_append, h1, List.length_take, List.length_cons]
    omega
theorem fours4 {q : List Int} {P : List (List Int)} (h : q.length = 4) : fours (q :: P) = fours P + 1 := by
  unfold fours
  simp [List.filter_cons, h]
theorem fours3 {q : List Int} {P : List (List Int)} (h : q.length = 3) : fours (q :: P) = fours P := by
  unfold fours
  simp [List.filter_cons, h]
theorem alph4 {q : List Int} {P : List (List Int)} {x : Int} (h : q[3]? = some x) : alphOf (q :: P) = x.toNat.toUInt8 :: alphOf P := by
  unfold alphOf octets
  simp [List.filterMap_cons, h]
theorem alph3 {q : List Int} {P : List (List Int)} (h : q[3]? = none) : alphOf (q :: P) = alphOf P := by
  unfold alphOf octets
  simp [List.filterMap_cons, h]
theorem alph_len : ∀ {P : List (List Int)}, (∀ r ∈ P, r.length = 3 ∨ r.length = 4) → (alphOf P).length = fours P
  | [], _ => rfl
  | r :: P, h => by
    have h1 := alph_len (P := P) fun r hr => h r (.tail _ hr)
    have h2 := h r (.head _)
    rcases h2 with h2 | h2
    · rw [alph3 (List.getElem?_eq_none (by omega)), fours3 h2, h1]
    · obtain ⟨x, e⟩ : ∃ x, r[3]? = some x := ⟨r[3]'(by omega), List.getElem?_eq_getElem _⟩
      rw [alph4 e, fours4 h2, List.length_cons, h1]
theorem cols_at : ∀ {P : List (List Int)} {k : Nat} {r : List Int}, (∀ r ∈ P, r.length = 3 ∨ r.length = 4) → P[k]? = some r → ((colsOf P).drop (3 * k)).take 3 = octets (r.take 3)
  | [], _, _, _, e => by simp at e
  | q :: P, 0, r, h, e => by
    obtain rfl : q = r := by simpa using e
    have h2 := h q (.head _)
    have hl : (octets (q.take 3)).length = 3 := by unfold octets; rw [List.length_map, List.length_take]; omega
    have e1 : colsOf (q :: P) = octets (q.take 3) ++ colsOf P := by simp [colsOf, octets]
    rw [e1, Nat.mul_zero, List.drop_zero, List.take_append_of_le_length (by omega), List.take_of_length_le (by omega)]
  | q :: P, k + 1, r, h, e => by
    have h2 := h q (.head _)
    have hl : (octets (q.take 3)).length = 3 := by unfold octets; rw [List.length_map, List.length_take]; omega
    have e1 : colsOf (q :: P) = octets (q.take 3) ++ colsOf P := by simp [colsOf, octets]
    rw [e1, show 3 * (k + 1) = (octets (q.take 3)).length + 3 * k by omega, List.drop_append, List.drop_of_length_le (by omega), Nat.add_sub_cancel_left, List.nil_append]
    exact cols_at (fun r hr => h r (.tail _ hr)) (by simpa using e)
/-- the rows of four stand first -/
theorem fours_lt : ∀ {P : List (List Int)} {b : Bool} {k : Nat} {r : List Int}, okFrom b P = true → P[k]? = some r → (b = true → fours P = 0) ∧ (k < fours P ↔ r.length = 4)
  | [], _, _, _, _, e => by simp at e
  | q :: P, b, k, r, h, e => by
    obtain ⟨h1, h2⟩ := Bool.and_eq_true_iff.mp h
    obtain ⟨hl, _⟩ := okRow_parts h1
    have key : ∀ c, okFrom c P = true → c = true → fours P = 0 := fun c hc ht => by
      cases P with
      | nil => rfl
      | cons p P => exact (fours_lt (k := 0) (r := p) hc rfl).1 ht
    have hb : b = true → q.length ≠ 4 := fun hb h4 => by
      have := row_late (b := b) (ns := q) (by omega) hb
      rw [this] at h1; cases h1
    by_cases h4 : q.length = 4
    · have e4 : (q.length == 4) = true := by rw [h4]; rfl
      have ef : fours (q :: P) = fours P + 1 := fours4 h4
      refine ⟨fun hb' => absurd h4 (hb hb'), ?_⟩
      cases k with
      | zero =>
        obtain rfl : q = r := by simpa using e
        rw [ef]
        exact ⟨fun _ => h4, fun _ => by omega⟩
      | succ k =>
        have := (fours_lt h2 (k := k) (r := r) (by simpa using e)).2
        rw [ef, ← this]
        omega
    · have h3 : q.length = 3 := by omega
      have e4 : ¬ (q.length == 4) = true := by rw [h3]; decide
      have ef : fours (q :: P) = fours P := fours3 h3
      have e3 : (b || q.length == 3) = true := by rw [h3]; simp
      have f0 : fours P = 0 := key _ h2 e3
      refine ⟨fun _ => by rw [ef, f0], ?_⟩
      rw [ef, f0]
      cases k with
      | zero =>
        obtain rfl : q = r := by simpa using e
        exact ⟨fun h => absurd h (Nat.not_lt_zero _), fun h => absurd h h4⟩
      | succ k =>
        have := (fours_lt h2 (k := k) (r := r) (by simpa using e)).2
        rw [f0] at this
        rw [← this]
        omega
theorem alph_at : ∀ {P : List (List Int)} {b : Bool} {k : Nat} {r : List Int} {x : Int}, okFrom b P = true → P[k]? = some r → r[3]? = some x → (alphOf P)[k]? = some x.toNat.toUInt8
  | [], _, _, _, _, _, e, _ => by simp at e
  | q :: P, b, 0, r, x, h, e, ex => by
    obtain rfl : q = r := by simpa using e
    rw [alph4 ex]; rfl
  | q :: P, b, k + 1, r, x, h, e, ex => by
    obtain ⟨h1, h2⟩ := Bool.and_eq_true_iff.mp h
    obtain ⟨hl, _⟩ := okRow_parts h1
    have er : P[k]? = some r := by simpa using e
    obtain ⟨hr, _⟩ := okRow_parts (okFrom_row h2 er).choose_spec
    have hr4 : r.length = 4 := by
      have := (List.getElem?_eq_some_iff.mp ex).1
      omega
    have hq : q.length = 4 := by
      have h0 : 0 < fours (q :: P) := by
        have := (fours_lt h e).2.mpr hr4
        omega
      exact (fours_lt (k := 0) (r := q) h rfl).2.mp h0
    obtain ⟨y, ey⟩ : ∃ y, q[3]? = some y := ⟨q[3]'(by omega), List.getElem?_eq_getElem _⟩
    rw [alph4 ey]
    exact alph_at h2 er ex
end Mine
end
section
open PySem PySem.W PySem.Calls PyProof.Rows
set_option Elab.async false
set_option maxRecDepth 100000
set_option maxHeartbeats 4000000
namespace Mine
/-- the statements under «if fine» -/
def fineBody (k : Nat) : List Stmt := match lawStmts 5 with
  | .If _ b _ _ :: _ => b.drop k
  | _ => []
def noCell (o : Obj) : Prop := ∀ v, o.data ≠ .cell v
theorem ents_nocell {es : List (Addr × Obj)} {P : List (List Int)} (h : Ents es P) : ∀ p ∈ es, noCell p.2 := by
  induction h with
  | nil => intro p hp; cases hp
  | cons a _ _ _ ih =>
    intro p hp
    rcases List.mem_cons.mp hp with rfl | hp
    · intro v q; cases q
    · exact ih p hp
section
variable {M : Model} {A : Around} {E : Value → Shared → Prop} {s : Shared} {env : Env}
theorem wpC_Assign_one {t value : Expr} {pos : Pos} {Q : Flow → Shared → Prop}
    (h : wpC M A (eval value env) (fun v s₁ => wpAny M A (assign t env v) (fun _ => Q .next) E s₁) E s)
    (hs : swapsWithSole [t] value pos.line env = pure false) (hw : swappedStores [t] value env = pure none) (he : (assignEach [t] env).map (·.2) = [assign t env] := by rfl) :
    wpC M A (exec (.Assign [t] value pos) env) Q E s := by
  rw [exec_Assign_arm]
  refine wpC_bindA (wpAny_standAt ?_)
  rw [hs]
  refine wpC_bindA (wpAny_pure ?_)
  rw [if_neg (by decide)]
  refine wpC_bind (wpC_mono h (fun v s₁ h₁ => ?_) fun _ _ x => x)
  rw [hw, he]
  refine wpC_bindA (wpAny_pure ?_)
  show wpC M A (do assignAll v [assign t env]; pure .next) Q E s₁
  exact wpC_of (wpAny_bind (wpAny_mono h₁ (fun _ _ x => wpAny_pure x) fun _ _ x => x))
end
section
variable {M : Model} {A : Around} {E : Value → Shared → Prop} {s : Shared} {name : Str} {scope : Scope} {L a : Addr} {cd : Value} {h₀ : Heap} {m : Str → Option Value}
theorem stCell {x : Str} {c : Addr} {o : Obj} {v₀ : Option Value} {v : Value} {q rest : List (Addr × Obj)} {Q : Unit → Shared → Prop} (F : Fr h₀ L s.heap m) (N : News h₀ L s.heap (q ++ (c, o) :: rest))
    (hc : (cellsFrom (L + 1) scope.names []).lookup x = some c) (hd : o.data = .cell v₀) (hq : ∀ p ∈ q ++ rest, p.1 ≠ c ∨ noCell p.2)
    (h : ∀ h' o', Fr h₀ L h' m → News h₀ L h' (q ++ (c, o') :: rest) → o'.data = .cell (some v) → Q () { s with heap := h' })
    (hk : scope.kind = .function := by rfl) (hl : (envOfC name scope L a cd).kindOf x = some .cell := by rfl) :
    wpAny M A (storeName (envOfC name scope L a cd) x v) Q E s := by
  have key : ∀ p ∈ q ++ rest, p.1 ≠ c := fun p hp e => by
    rcases hq p hp with h3 | h3
    · exact h3 e
    · have hp' : p ∈ q ++ (c, o) :: rest := by
        rcases List.mem_append.mp hp with hp | hp
        · exact List.mem_append_left _ hp
        · exact List.mem_append_right _ (.tail _ hp)
      have h4 := (N p hp').1
      have h5 := (N (c, o) (List.mem_append_right _ (.head _))).1
      rw [e] at h4
      have e2 : p.2 = o := Option.some.inj (h4.symm.trans h5)
      exact h3 v₀ (by rw [e2]; exact hd)
  exact stCN F N hc hd (fun p hp => key p (List.mem_append_left _ hp)) (fun p hp => key p (List.mem_append_right _ hp)) h hk hl
end
set_option pp.deepTerms false in
theorem st5a : ∀ (w : World) (mean : ExcName → Option Value) (mg mb : Str → Option Value) (L a : Addr) (ccd : Value) (h₀ : Heap) (m0 : Str → Option Value) (s : Shared) (Q : Flow → Shared → Prop) (E : Value → Shared → Prop) (e f : Addr) (n2 : Nat) (of o1 o2 o3 : Obj) (es : List (Addr × Obj)) (P : List (List Int))
  (_ : Below callerA h₀ [] h₀) (_ : Fr h₀ L s.heap (fun y => if y = Str.ofString "entries" then some (.ref e) else m0 y)) (_ : (hd.heap_39 w.params).In h₀)
  (_ : News h₀ L s.heap ((e, listOf (refs es).toArray n2) :: (f, of) :: (L + 1 + 1 + 1, o1) :: (L + 1 + 1, o2) :: (L + 1, o3) :: es)) (_ : Top hd.view_39 (looseW hd.view_39 []) mean mg mb h₀) (_ : Ents es P) (_ : okPal P = true)
  (_ : noCell of) (_ : o1.data = .cell none) (_ : o2.data = .cell none) (_ : o3.data = .cell none)
  (_ : ∀ (h' : Heap) (tk' : Tok) (m' : Str → Option Value) (p t : Addr) (al : Value) (o1 o2 o3 : Obj), m' (Str.ofString "entries") = some (.ref e) → m' (Str.ofString "found") = m0 (Str.ofString "found") → (alphOf P = [] → al = .none) → (alphOf P ≠ [] → al = .ref t) → o1.data = .cell none → o2.data = .cell (some al) → o3.data = .cell (some (.ref p)) → Fr h₀ L h' m' →
      News h₀ L h' ((L + 1 + 1 + 1, o1) :: (L + 1 + 1, o2) :: (L + 1, o3) :: (t, baOf (alphOf P).toArray) :: (p, baOf (colsOf P).toArray) :: (e, listOf (refs es).toArray n2) :: (f, of) :: es) → Q .next { s with heap := h', toks := tk' }),
  wpC (model Challenge.rw_ax6025_01.row.prog w) (callerA.deeper (lawEnv L a ccd)) (execs ((fineBody 0).take 1) (lawEnv L a ccd)) Q E s := by
  w_on
  k_fill
  intros
  rename_i w mean mg mb L a ccd h₀ m0 s Q E e f n2 of o1 o2 o3 es P B F X N T hE hok hof d1 d2 d3 hQ
  conv in execs _ _ => arg 1; whnf
  refine wpC_execs_cons ?_
  refine wpC_Assign_one ?_ (by with_unfolding_all rfl) (by with_unfolding_all rfl)
  refine wpC_Call_Name ?_
  k_steps
  obtain ⟨o, fd, hf⟩ := fn_in (f := 74) X F (by k_is)
  refine wpC_callWith_es (o := o) (fd := fd) ?_
  simp only [List.map_cons, List.map_nil]
  refine spliced_cons ?_
  k_steps
  refine spliced_nil ⟨hf, ?_⟩
  have N1 : News h₀ L s.heap ((e, listOf (refs es).toArray n2) :: (es ++ [(f, of), (L + 1 + 1 + 1, o1), (L + 1 + 1, o2), (L + 1, o3)])) := fun p hp => N p (by
    simp only [List.mem_cons, List.mem_append, List.not_mem_nil, or_false] at hp ⊢
    rcases hp with q | q | q | q | q | q
    all_goals simp only [q, true_or, or_true])
  refine mpc w mean mg mb L a ccd h₀ _ _ _ _ _ e n2 es P B F X N1 T hE hok ?_
  intro h2 tk2 p t D al ha0 ha1 F2 N2
  clear N N1
  have N3 : News h₀ L h2 ([(D, tupOf [.ref p, al]), (L + 1 + 1 + 1, o1), (L + 1 + 1, o2)] ++ (L + 1, o3) :: ((t, baOf (alphOf P).toArray) :: (p, baOf (colsOf P).toArray) :: (e, listOf (refs es).toArray n2) :: (f, of) :: es)) := fun q hq => N2 q (by
    simp only [List.mem_cons, List.mem_append, List.not_mem_nil, or_false] at hq ⊢
    rcases hq with (q | q | q) | q | q | q | q | q | q
    all_goals simp only [q, true_or, or_true])
  clear N2
  refine wpAny_assign_Tuple rfl ⟨_, (N3 _ (.head _)).1, rfl, _, rfl⟩ rfl (by with_unfolding_all rfl) fun h3 he3 => ?_
  have up3 : ∀ b o, h2.get? b = some o → h3.get? b = some o := fun b o q => he3 b o (Nat.ne_of_lt (Heap.lt_size q)) q
  replace F2 := F2.keeps up3
  replace N3 := N3.grown up3
  clear he3 up3
  refine wpAny_assignInOrder_more (wpAny_assign_Name ?_)
  have hes := ents_nocell hE
  have hba : ∀ b, noCell (baOf b) := fun b v q => nomatch q
  have hli : ∀ xs n, noCell (listOf xs n) := fun xs n v q => nomatch q
  have htu : ∀ vs, noCell (tupOf vs) := fun vs v q => nomatch q
  refine stCell F2 N3 rfl d3 ?_ ?_
  · intro q hq
    simp only [List.mem_cons, List.mem_append, List.not_mem_nil, or_false] at hq
    rcases hq with (rfl | rfl | rfl) | rfl | rfl | rfl | rfl | hq
    · exact .inr (htu _)
    · exact .inl (Nat.ne_of_gt (Nat.lt_succ_of_lt (Nat.lt_succ_self _)))
    · exact .inl (Nat.ne_of_gt (Nat.lt_succ_self _))
    · exact .inr (hba _)
    · exact .inr (hba _)
    · exact .inr (hli _ _)
    · exact .inr hof
    · exact .inr (hes _ hq)
  intro h4 o3' F4 N4 d3'
  clear F2 N3
  refine wpAny_assignInOrder_more (wpAny_assign_Name ?_)
  have N5 : News h₀ L h4 ([(L + 1 + 1 + 1, o1)] ++ (L + 1 + 1, o2) :: ((L + 1, o3') :: (t, baOf (alphOf P).toArray) :: (p, baOf (colsOf P).toArray) :: (e, listOf (refs es).toArray n2) :: (f, of) :: es)) := fun q hq => N4 q (by
    simp only [List.mem_cons, List.mem_append, List.not_mem_nil, or_false] at hq ⊢
    rcases hq with q | q | q | q | q | q | q | q
    all_goals simp only [q, true_or, or_true])
  clear N4
  refine stCell F4 N5 rfl d2 ?_ ?_
  · intro q hq
    simp only [List.mem_cons, List.mem_append, List.not_mem_nil, or_false] at hq
    rcases hq with rfl | rfl | rfl | rfl | rfl | rfl | hq
    · exact .inl (Nat.ne_of_gt (Nat.lt_succ_self _))
    · exact .inl (Nat.ne_of_lt (Nat.lt_succ_self _))
    · exact .inr (hba _)
    · exact .inr (hba _)
    · exact .inr (hli _ _)
    · exact .inr hof
    · exact .inr (hes _ hq)
  intro h6 o2' F6 N6 d2'
  clear F4 N5
  refine wpAny_assignInOrder_none ?_
  refine wpC_pure (a := Flow.next) ?_
  exact hQ _ _ (fun y => if y = Str.ofString "entries" then some (.ref e) else m0 y) p t al o1 o2' o3' rfl rfl ha0 ha1 d1 d2' d3' F6 N6
end Mine
end
section
open PySem PySem.W PySem.Calls PyProof.Rows
set_option Elab.async false
set_option maxRecDepth 100000
set_option maxHeartbeats 4000000
namespace Mine
theorem fours_snoc {P : List (List Int)} {i : Nat} {ns : List Int} (e : P[i]? = some ns) : fours (P.take (i + 1)) = fours (P.take i) + if (ns.length == 4) = true then 1 else 0 := by
  unfold fours
  rw [List.take_add_one, e, List.filter_append, List.length_append]
  cases h : (ns.length == 4) <;> simp [h]
section
variable {prog : Program} {w : World} {A : Around} {E : Value → Shared → Prop} {s : Shared} {env : Env} {h₀ : Heap} {L : Addr} {m : Str → Option Value}
/-- what the count of the rows of four asks, behind its iterable -/
structure FourNext (prog : Program) (w : World) (A : Around) (env : Env) (h₀ : Heap) (L : Addr) (m : Str → Option Value) (test : Expr) (x : Str) (scope : Scope) (cl : List (Str × Addr)) (Q : Value → Shared → Prop) (xv : Value) (s₁ : Shared) : Prop where
  it : ∃ (ax : Addr) (es : List (Addr × Obj)) (P : List (List Int)) (kk : Nat) (news : List (Addr × Obj)), xv = .ref ax ∧ Ents es P ∧ P.length ≤ 300 ∧
      Fr h₀ L s₁.heap m ∧ News h₀ L s₁.heap news ∧ (ax, listOf (refs es).toArray kk) ∈ news ∧
      (∀ (a : Addr) vs ns ys C D oC own k h tk E' mC, (a, ({ cls := .type "tuple", data := .seq vs.toArray } : Obj)) ∈ es → IntsAre vs ns → ns.length ≤ 5 → Fr h₀ L h m → News h₀ L h ((C, oC) :: (D, listOf ys k) :: (news ++ own)) → h.Ns C mC → mC x = some (.ref a) → C ≠ D →
        wpAny (model prog w) A (isTrue test (compEnvC scope cl C env) (eval test (compEnvC scope cl C env))) (fun ok s₄ => ok = (ns.length == 4) ∧ ∃ h' tk', s₄ = { s₁ with heap := h', toks := tk' } ∧ Fr h₀ L h' m ∧ News h₀ L h' ((C, oC) :: (D, listOf ys k) :: (news ++ own))) E' { s₁ with heap := h, toks := tk }) ∧
      (∀ D k h' tk ys zs, Fr h₀ L h' m → News h₀ L h' ((D, listOf ys.toArray k) :: news) → (∀ p ∈ news, p.1 ≠ D) → IntsAre ys zs → zs.length = fours P → Q (.ref D) { s₁ with heap := h', toks := tk })
theorem comp4 {iter test elt : Expr} {x : Str} {px : Pos} {scope : Scope} {cl : List (Str × Addr)} {pos : Pos} {Q : Value → Shared → Prop} (_F0 : Fr h₀ L s.heap m)
    (hA : A.handled = none) (hclos : closureFor scope env = pure cl) (hcell : ∀ y ∈ scope.names, y.2 ≠ .cell) (hkind : scope.kind = .function)
    (hnames : ∀ y ∈ scope.names, y.2 = .local → scope.names.lookup y.1 = some .local) (hx : scope.names.lookup x = some .local)
    (helt : ∀ (env' : Env) (s' : Shared) (Q' : Value → Shared → Prop) (E' : Value → Shared → Prop), (∀ t tk, Q' (.int 1 t) { s' with toks := tk }) → wpAny (model prog w) A (eval elt env') Q' E' s')
    (h : wpAny (model prog w) A (eval iter env) (FourNext prog w A env h₀ L m test x scope cl Q) E s)
    (hs : ∀ x, foldedSetIterable iter env x = pure x := by intro _; rfl) :
    wpAny (model prog w) A (eval (.ListComp elt [⟨.Name x px, iter, [test], 0⟩] scope pos) env) Q E s := by
  refine compJ (h₀ := h₀) (L := L) (m := m) hclos hcell hkind hnames hx (wpAny_mono h (fun xv s₁ h₁ => ?_) fun _ _ e => e) hs
  obtain ⟨ax, es, P, kk, news, rfl, hEn, hsz, F, N, hmem, step, done⟩ := h₁.it
  have hax : s₁.heap.IsList ax (refs es).toArray := ⟨_, (N _ hmem).1, rfl, _, rfl⟩
  have haxlt : @LT.lt Nat _ ax s₁.heap.objs.size := Heap.lt_size (N _ hmem).1
  have hLlt : @LT.lt Nat _ L s₁.heap.objs.size := F.ns.lt
  have hne : ax ≠ s₁.heap.objs.size := Nat.ne_of_lt haxlt
  have hlE := hEn.length
  refine wpAny_pyIter_list hax ?_
  have up : ∀ b o, s₁.heap.get? b = some o → (s₁.heap.push { cls := .type "list_iterator", data := .fields #[.ref ax, .int 0 0] }).get? b = some o := fun b o e => Heap.get?_push_of_some _ e
  have hit : (s₁.heap.push { cls := .type "list_iterator", data := .fields #[.ref ax, .int 0 0] }).get? s₁.heap.objs.size = some { cls := .type "list_iterator", data := .fields #[.ref ax, .int 0 0] } := Heap.get?_push_size _ rfl
  have F₂ := F.keeps up
  have N₂ := N.grown up
  refine ⟨s₁.heap.objs.size, _, _, (refs es).toArray.size, _, _, news, fun i ys nw => nw = news ∧ ∃ zs, IntsAre ys zs ∧ zs.length = fours (P.take i), rfl, Walks.list hA s₁.heap.objs.size ax hne (refs es).toArray, ?_, ⟨⟨_, hit, rfl, rfl⟩, hax.at fun o e => up _ _ e⟩, ?_, ?_, ?_, ?_, F₂, N₂, ⟨rfl, [], .nil, by simp [fours]⟩, ?_, ?_, ?_⟩
  · rw [List.size_toArray, refs_length, hlE]
    have : 300 ≤ sizeLine := by decide
    omega
  · intro b hb
    show @LT.lt Nat _ b (s₁.heap.push _).objs.size
    rw [Heap.size_push]
    rcases List.mem_cons.mp hb with rfl | hb
    · exact Nat.lt_succ_self _
    · rw [List.mem_singleton.mp hb]; exact Nat.lt_succ_of_lt haxlt
  · intro q
    rcases List.mem_cons.mp q with q | q
    · exact Nat.ne_of_lt hLlt q
    · exact (N _ hmem).2.1 (List.mem_singleton.mp q).symm
  · intro b hb
    rw [List.mem_singleton.mp hb]
    exact Heap.get?_none_of_le (Nat.le_trans F.above (Nat.le_of_lt hLlt))
  · intro p hp q
    exact Nat.ne_of_lt (Heap.lt_size (N p hp).1) (List.mem_singleton.mp q)
  · rintro i ys nw ⟨_, zs, hz, hl⟩
    rw [hz.length, hl]
    exact Nat.le_trans (List.length_filter_le _ _) (by rw [List.length_take]; exact Nat.min_le_left _ _)
  · intro i v ys news₁ C D oC k h tk own E' hi hP hJ F₃ N₃ hC hCD _ hnw
    obtain ⟨rfl, zs, hz, hl⟩ := hJ
    have hv : (refs es)[i]? = some v := by rw [List.getElem?_toArray] at hP; exact hP
    obtain ⟨a, vs, ns, rfl, hm, hns, hI, h5⟩ := hEn.get hv
    obtain ⟨mC, hNs, hmC⟩ := hC h (N₃ _ (.head _)).1
    simp only [List.forIn_cons, List.forIn_nil, if_true, bind_assoc, pure_bind]
    refine wpAny_bind (wpAny_mono (step a vs ns ys.toArray C D oC own k h tk E' mC hm hI h5 F₃ N₃ hNs hmC hCD) (fun ok s₄ h₄ => ?_) fun _ _ e => e)
    obtain ⟨rfl, h', tk', rfl, F₄, N₄⟩ := h₄
    show wpAny _ _ (pure (ns.length == 4)) _ _ _
    refine wpAny_pure ?_
    have ht := fours_snoc hns
    cases hb : (ns.length == 4) with
    | false =>
      simp only [Bool.false_eq_true, if_false]
      exact CEnd.intro news₁ F₄ N₄ (fun p hp => hp) hnw ⟨rfl, zs, hz, by rw [ht, hb, hl]; rfl⟩
    | true =>
      simp only [if_true]
      refine helt _ _ _ _ fun t tk2 => ?_
      refine CEnd.intro news₁ F₄ N₄ (fun p hp => hp) hnw ⟨rfl, zs ++ [1], ?_, by rw [List.length_append, ht, hb, hl]; rfl⟩
      exact ints_snoc' hz 1 t
  · rintro D k ys news₁ h' tk ⟨rfl, zs, hz, hl⟩ F₃ N₃ hne3
    rw [List.size_toArray, refs_length, hlE, List.take_length] at hl
    exact done D k h' tk ys zs F₃ N₃ hne3 hz hl
end
end Mine
end
section
open PySem PySem.W PySem.Calls PyProof.Rows PySem.SeqAt
set_option Elab.async false
set_option maxRecDepth 100000
namespace Mine
section
variable {A : Around} {s : Shared}
theorem eq_tups {a b : Addr} {vs ws : List Value} {ns : List Int} (ha : s.heap.get? a = some ({ cls := .type "tuple", data := .seq vs.toArray } : Obj)) (hb : s.heap.get? b = some ({ cls := .type "tuple", data := .seq ws.toArray } : Obj)) (hI : IntsAre vs ns) (hJ : IntsAre ws ns) (hu : A.units < cLine) :
    EqAt A s (.ref a) (.ref b) true := by
  by_cases hab : a = b
  · subst hab; exact EqAt.same _
  · refine EqAt.of_refs hab ?_
    have := RcAt.tuples (A := A) (s := s) (e := fun _ => true) (items := vs.toArray) (items2 := ws.toArray) ⟨_, ha, rfl, _, rfl⟩ ⟨_, hb, rfl, _, rfl⟩ hu (fun j h1 h2 => by
      obtain ⟨n, t, e1, q1⟩ := ints_get hI (j := j) (v := vs.toArray[j]) (by simp)
      obtain ⟨n', t', e2, q2⟩ := ints_get hJ (j := j) (v := ws.toArray[j]) (by simp)
      rw [e1, e2]
      obtain rfl : n = n' := Option.some.inj (q1.symm.trans q2)
      have := EqAt.int_int (A := A.in1) (s := s) n t n t'
      rw [beq_self_eq_true] at this
      exact this)
    rw [all_true] at this
    have hs : (vs.toArray.size == ws.toArray.size) = true := by
      rw [List.size_toArray, List.size_toArray, hI.length, hJ.length]
      exact beq_self_eq_true _
    rw [hs] at this
    exact this
/-- two palettes of the same rows are not unequal -/
theorem ne_pals {l b : Addr} {es es2 : List (Addr × Obj)} {P : List (List Int)} {n k : Nat} (hE : Ents es P) (hE2 : Ents es2 P) (hl : s.heap.get? l = some (listOf (refs es2).toArray n)) (hb : s.heap.get? b = some (listOf (refs es).toArray k))
    (h1 : ∀ p ∈ es, s.heap.get? p.1 = some p.2) (h2 : ∀ p ∈ es2, s.heap.get? p.1 = some p.2) (hu : A.units + 1 < cLine) : RcNeAt A s (.ref l) (.ref b) false := by
  have := RcNeAt.lists (A := A) (s := s) (e := fun _ => true) (items := (refs es2).toArray) (items2 := (refs es).toArray) ⟨_, hl, rfl, _, rfl⟩ ⟨_, hb, rfl, _, rfl⟩ (by rw [List.size_toArray, List.size_toArray, refs_length, refs_length, hE.length, hE2.length]) (by omega) (fun j q1 q2 => by
    obtain ⟨a1, v1, n1, e1, m1, p1, i1, _⟩ := hE2.get (i := j) (v := (refs es2).toArray[j]) (by simp)
    obtain ⟨a2, v2, n2, e2, m2, p2, i2, _⟩ := hE.get (i := j) (v := (refs es).toArray[j]) (by simp)
    rw [e1, e2]
    obtain rfl : n1 = n2 := Option.some.inj (p1.symm.trans p2)
    exact eq_tups (h2 _ m1) (h1 _ m2) i1 i2 hu)
  rw [all_true] at this
  exact this
end
end Mine
end
section
open PySem PySem.W PySem.Calls PyProof.Rows
set_option Elab.async false
set_option maxRecDepth 100000
set_option maxHeartbeats 4000000
namespace Mine
namespace BA
theorem slotNext : Slot "bytearray_iterator" "__next__" "bytearray_iterator.__next__" :=
  .of (owner := "bytearray_iterator") (n := "__next__") (by rw [typeLookup_type, builtinLookup_eq_fast]; kernel_rfl) (by decide +kernel) (by decide +kernel) (by decide +kernel)
    (by first | exact .inl (by decide +kernel) | exact .inr (by decide +kernel)) (by rw [isSubtype_type]; kernel_rfl)
theorem entryNext : entryFor table "bytearray_iterator.__next__" = some Builtin.«bytearray_iterator.__next__» := entryFor_of_tree (by kernel_rfl)
theorem argsNext (a : Value) : argsOk "bytearray_iterator.__next__" ⟨[a], []⟩ := by unfold argsOk; kernel_rfl
theorem splitLen : splitId "bytearray.__len__" = some ("bytearray", "__len__") := by kernel_rfl
theorem slotIterIter : Slot "bytearray_iterator" "__iter__" "bytearray_iterator.__iter__" :=
  .of (owner := "bytearray_iterator") (n := "__iter__") (by rw [typeLookup_type, builtinLookup_eq_fast]; kernel_rfl) (by decide +kernel) (by decide +kernel) (by decide +kernel)
    (by first | exact .inl (by decide +kernel) | exact .inr (by decide +kernel)) (by rw [isSubtype_type]; kernel_rfl)
theorem entryIterIter : entryFor table "bytearray_iterator.__iter__" = some Builtin.«dict_keyiterator.__iter__» :=
  entryFor_alias (id' := "dict_keyiterator.__iter__") (by rw [fastTable_eq_tree]; kernel_rfl) (by first | decide +kernel | kernel_rfl) (by first | decide +kernel | kernel_rfl) (by rw [fastTable_eq_tree]; kernel_rfl)
theorem argsIterIter (a : Value) : argsOk "bytearray_iterator.__iter__" ⟨[a], []⟩ := by unfold argsOk; kernel_rfl
end BA
def BaIter (h : Heap) (it a : Addr) (i : Nat) : Prop := h.get? it = some { cls := .type "bytearray_iterator", dict := none, data := .fields #[.ref a, rawInt (i : Int)], slots := #[] }
section
variable {prog : Program} {w : World} {A : Around} {E : Value → Shared → Prop} {s : Shared}
theorem ba_iter {a : Addr} {b : Array UInt8} {Q : Value → Shared → Prop} (ha : s.heap.get? a = some (baOf b))
    (h : Q (.ref s.heap.objs.size) { s with heap := s.heap.push { cls := .type "bytearray_iterator", data := .fields #[.ref a, rawInt 0] } }) : wpAny (model prog w) A (pyIter (.ref a)) Q E s := by
  refine wpAny_pyIter_slot (ba_type ha) BA.slotIter (wpAny_call_entry BA.slotIter (ba_type ha) BA.entryIter ?_ (BA.argsIter _))
  show wpAny _ _ (do let (self, _) ← slotArgs "__iter__" 0 ⟨[.ref a], []⟩; ret (← newFields "bytearray_iterator" [self, rawInt 0])) _ _ s
  refine wpAny_bind (wpAny_of_eq (a := (.ref a, [])) rfl ?_)
  exact wpAny_bind (wpAny_newObj_type (wpAny_pure ⟨_, rfl, "bytearray_iterator", _, ⟨_, Heap.get?_push_size _ rfl, rfl⟩, BA.slotNext.lookup, h⟩))
theorem ba_next_item {it a : Addr} {b : Array UInt8} {i : Nat} {x : UInt8} {Q : Option Value → Shared → Prop} (hit : BaIter s.heap it a i) (ha : s.heap.get? a = some (baOf b)) (hx : b[i]? = some x)
    (h : ∀ h', BaIter h' it a (i + 1) → Heap.SameBut it s.heap h' → Q (some (.int x.toNat s.toks)) { s with heap := h', toks := s.toks + 1 }) : wpAny (model prog w) A (pyNext (.ref it)) Q E s := by
  have hT : s.TypeIs (.ref it) "bytearray_iterator" := ⟨_, hit, rfl⟩
  unfold pyNext
  refine wpAny_bind (wpAny_attempt (wpAny_callSpecial?_slot (name := Str.ofString "__next__") hT BA.slotNext
    (wpAny_call_entry BA.slotNext hT BA.entryNext ?_ (BA.argsNext _))))
  show wpAny _ _ (slotArgs "__next__" 0 ⟨[.ref it], []⟩ >>= _) _ _ s
  refine wpAny_bind (wpAny_of_eq (a := (.ref it, [])) rfl ?_)
  dsimp only
  refine wpAny_bind (wpAny_field hit rfl (x := .ref a) rfl ?_)
  dsimp only
  refine wpAny_bind (wpAny_load ha ?_)
  dsimp only
  refine wpAny_bind (wpAny_field hit rfl (x := rawInt (i : Int)) rfl ?_)
  dsimp only [rawInt]
  rw [Int.toNat_natCast, hx]
  dsimp only
  refine wpAny_bind (wpAny_setField hit rfl (by simp) ?_)
  refine wpAny_bind (wpAny_mkInt (wpAny_pure ⟨_, rfl, ?_⟩))
  refine wpAny_pure (h _ ?_ (Heap.SameBut.update ..))
  exact Heap.get?_update_self _ hit rfl
theorem ba_next_end {it a : Addr} {b : Array UInt8} {i : Nat} {Q : Option Value → Shared → Prop} (hh : A.handled = none) (hit : BaIter s.heap it a i) (ha : s.heap.get? a = some (baOf b)) (hx : b[i]? = none)
    (h : ∀ h', Heap.ExtBut it s.heap h' → Q none { s with heap := h' }) : wpAny (model prog w) A (pyNext (.ref it)) Q E s := by
  have hT : s.TypeIs (.ref it) "bytearray_iterator" := ⟨_, hit, rfl⟩
  unfold pyNext
  refine wpAny_bind (wpAny_attempt (wpAny_callSpecial?_slot (name := Str.ofString "__next__") hT BA.slotNext
    (wpAny_call_entry BA.slotNext hT BA.entryNext ?_ (BA.argsNext _))))
  show wpAny _ _ (slotArgs "__next__" 0 ⟨[.ref it], []⟩ >>= _) _ _ s
  refine wpAny_bind (wpAny_of_eq (a := (.ref it, [])) rfl ?_)
  dsimp only
  refine wpAny_bind (wpAny_field hit rfl (x := .ref a) rfl ?_)
  dsimp only
  refine wpAny_bind (wpAny_load ha ?_)
  dsimp only
  refine wpAny_bind (wpAny_field hit rfl (x := rawInt (i : Int)) rfl ?_)
  dsimp only [rawInt]
  rw [Int.toNat_natCast, hx]
  dsimp only
  refine wpAny_bind (wpAny_rule ?_)
  refine wpAny_bind (wpAny_setField hit rfl (by simp) ?_)
  refine wpAny_bind (wpAny_letGo ?_)
  show wpAny _ _ (newExc (.type "StopIteration") [] >>= _) _ _ _
  refine wpAny_bind ?_
  simp only [newExc, newTuple]
  refine wpAny_bind (wpAny_newObj_type ?_ (by size_fits))
  refine wpAny_bind (m := firstArgMember _ _) (wpAny_of_eq (a := Value.none) (by first | rfl | (simp only [firstArgMember]; rfl)) ?_)
  refine wpAny_newObj_type ?_ (by size_fits)
  simp only [raiseNew]
  refine wpAny_bind (wpAny_handled ?_)
  rw [show A.in1.handled = none from hh]
  refine wpAny_bind (wpAny_pure (wpAny_throw ?_))
  refine wpAny_bind (wpAny_isInstance (T := "StopIteration") (b := true) ⟨_, Heap.get?_push_size _ rfl, rfl⟩ isSubtype_stop ?_)
  exact wpAny_pure (h _ (((Heap.SameBut.update ..).extBut.push _).push _))
theorem Walks.ba (hh : A.handled = none) (I a : Addr) (hne : a ≠ I) (b : Array UInt8) :
    Walks prog w A I [I, a] [I] b.size (fun i v => ∃ x t, b[i]? = some x ∧ v = .int x.toNat t) (fun i h => BaIter h I a i ∧ h.get? a = some (baOf b)) where
  sub := fun b hb => by simp at hb; simp [hb]
  frame := fun _ _ _ st hk => ⟨hk I (by simp) _ st.1, hk a (by simp) _ st.2⟩
  item := fun i s Q E hi st hQ => by
    refine ba_next_item st.1 st.2 (x := b[i]) (by simp [hi]) fun h' hit' hs' => ?_
    exact hQ _ h' _ ⟨b[i], _, by simp [hi], rfl⟩ ⟨hit', hs'.extBut a _ hne st.2⟩ fun c o hb e => hs'.extBut c o (fun h => hb (by simp [h])) e
  done := fun s Q E st hQ => by
    refine ba_next_end hh st.1 st.2 (by simp) fun h' hs' => ?_
    exact hQ h' s.toks fun c o hb e => hs' c o (fun h => hb (by simp [h])) e
  self := fun i s Q E st hQ => by
    have hT : s.TypeIs (.ref I) "bytearray_iterator" := ⟨_, st.1, rfl⟩
    refine wpAny_pyIter_slot hT BA.slotIterIter (wpAny_call_entry BA.slotIterIter hT BA.entryIterIter ?_ (BA.argsIterIter _))
    show wpAny _ _ (Builtin.«dict_keyiterator.__iter__» ⟨[.ref I], []⟩) _ _ s
    unfold Builtin.«dict_keyiterator.__iter__»
    refine wpAny_bind (wpAny_of_eq (a := (.ref I, [])) rfl ?_)
    exact wpAny_pure ⟨_, rfl, "bytearray_iterator", _, hT, BA.slotNext.lookup, hQ⟩
def bytesV (b : Array UInt8) (acc : List Value) : Prop := IntsAre acc (b.toList.map fun x => (x.toNat : Int))
theorem bytesV_of {b : Array UInt8} {acc : Array Value} (h : ItemsOf (fun i v => ∃ x t, b[i]? = some x ∧ v = .int x.toNat t) acc b.size) : bytesV b acc.toList := by
  unfold bytesV
  obtain ⟨hsz, hel⟩ := h
  obtain ⟨b⟩ := b
  obtain ⟨acc⟩ := acc
  have hsz : acc.length = b.length := hsz
  have hel : ∀ j v, acc[j]? = some v → ∃ x t, b[j]? = some x ∧ v = Value.int (UInt8.toNat x : Nat) t := fun j v e => by
    obtain ⟨x, t, q, r⟩ := hel j v (by simpa using e)
    exact ⟨x, t, by simpa using q, r⟩
  show IntsAre acc (b.map fun x => (x.toNat : Int))
  induction acc generalizing b with
  | nil =>
    cases b with
    | nil => exact .nil
    | cons y b => simp at hsz
  | cons v acc ih =>
    cases b with
    | nil => simp at hsz
    | cons y b =>
      obtain ⟨x, t, hx, rfl⟩ := hel 0 v rfl
      obtain rfl : y = x := by simpa using hx
      refine .cons _ _ (ih b ?_ ?_ (by simpa using hsz) fun j v hv => ?_)
      · simpa using hsz
      · intro j v hv
        obtain ⟨x, t, q, r⟩ := hel (j + 1) v (by simpa using hv)
        exact ⟨x, t, by simpa using q, r⟩
      · obtain ⟨x, t, q, r⟩ := hel (j + 1) v (by simpa using hv)
        exact ⟨x, t, by simpa using q, r⟩
theorem ba_hint {M : Model} {a : Addr} {b : Array UInt8} {Q : Bool → Shared → Prop} (ha : s.heap.get? a = some (baOf b)) (h : Q false s) : wpAny M A (Builtin.List.listLengthHint (.ref a)) Q E s := by
  unfold Builtin.List.listLengthHint
  refine wpAny_bind (wpAny_specialOf (ba_type ha) BA.slotLen.lookup ?_)
  dsimp only
  rw [BA.splitLen]
  dsimp only
  refine wpAny_bind (wpAny_isInstance (ba_type ha) BA.subSelf ?_)
  rw [if_neg (by decide)]
  refine wpAny_bind (wpAny_typeOf (ba_type ha) ?_)
  exact wpAny_pure h
theorem ba_collect {a : Addr} {b : Array UInt8} {Q : List Value → Shared → Prop} (hh : A.handled = none) (ha : s.heap.get? a = some (baOf b)) (hsz : b.size ≤ sizeLine)
    (h : ∀ h' tk acc, (∀ c o, s.heap.get? c = some o → h'.get? c = some o) → bytesV b acc → Q acc { s with heap := h', toks := tk }) : wpAny (model prog w) A (collect (.ref a)) Q E s := by
  have halt : @LT.lt Nat _ a s.heap.objs.size := Heap.lt_size ha
  unfold collect
  refine wpAny_bind (wpAny_runValue (codeAny_builtin F.entry_proto_collect ?_))
  rw [Around.under_plainId F.plain_proto_collect _]
  show wpAny _ A.in1 (newList [] >>= fun l => again (.builtin "list.__iadd__" ⟨[l, .ref a], []⟩)) _ _ s
  refine wpAny_bind (wpAny_newObj_type ?_)
  refine wpAny_pure ⟨plainId_quiet F.plain_list_iadd _, codeAny_builtin F.entry_list_iadd ?_⟩
  rw [Around.under_plainId F.plain_list_iadd _]
  generalize hH : s.heap.push { cls := .type "list", data := .seq ([] : List Value).toArray } = H
  have up : ∀ c o, s.heap.get? c = some o → H.get? c = some o := fun c o e => hH ▸ Heap.get?_push_of_some _ e
  have hszH : H.objs.size = s.heap.objs.size + 1 := by rw [← hH, Heap.size_push]
  have hS : H.get? s.heap.objs.size = some { cls := .type "list", data := .seq ([] : List Value).toArray } := hH ▸ Heap.get?_push_size _ rfl
  generalize hSs : s.heap.objs.size = S at *
  have haS : a ≠ S := Nat.ne_of_lt halt
  have ha1 : H.get? a = some (baOf b) := up _ _ ha
  show wpAny _ A.in1 (Builtin.List.listExtendWith (.ref S) (.ref a) (.ref S)) _ _ _
  unfold Builtin.List.listExtendWith
  refine wpAny_bind (wpAny_typeOf (ba_type (s := { s with heap := H }) ha1) ?_)
  have h1 : Builtin.List.listSameRef (.ref S) (.ref a) = false := by simp [Builtin.List.listSameRef, Ne.symm haS]
  have h2 : (Value.type "bytearray" == Value.type "list") = false := by decide
  have h3 : (Value.type "bytearray" == Value.type "tuple") = false := by decide
  simp only [h1, h2, h3, Bool.or_false, Bool.false_eq_true, if_false]
  refine wpAny_bind (ba_iter (s := { s with heap := H }) ha1 ?_)
  generalize hG : H.push { cls := .type "bytearray_iterator", data := .fields #[.ref a, rawInt 0] } = G
  have hG' : (H.push { cls := .type "bytearray_iterator", data := .fields #[.ref a, rawInt 0] }) = G := hG
  have upG : ∀ c o, H.get? c = some o → G.get? c = some o := fun c o e => hG ▸ Heap.get?_push_of_some _ e
  have hI : G.get? H.objs.size = some { cls := .type "bytearray_iterator", data := .fields #[.ref a, rawInt 0] } := hG ▸ Heap.get?_push_size _ rfl
  dsimp only
  generalize hIi : H.objs.size = I at *
  have haI : a ≠ I := by rw [hszH]; exact Nat.ne_of_lt (Nat.lt_succ_of_lt halt)
  have hSI : S ≠ I := by rw [hszH]; exact Nat.ne_of_lt (Nat.lt_succ_self _)
  refine wpAny_bind (wpAny_holding (ba_hint (s := { s with heap := G }) (upG _ _ ha1) ?_))
  refine wpAny_pure ⟨plainId_quiet F.plain_extend_loop _, ?_⟩
  have W := (Walks.ba (prog := prog) (w := w) (A := A.in1) hh I a haI b).toS
  refine codeAny_extend_loopS W hsz S (by simp [hSI, Ne.symm haS]) _ b.size 0 { s with heap := G } #[] 0 rfl (Nat.zero_le _) ⟨hI, upG _ _ ha1⟩ (upG _ _ hS) (ItemsOf.nil _) fun s' acc' c' hm hS' hacc => ?_
  show wpAny _ A (load S >>= _) _ _ s'
  refine wpAny_bind (wpAny_load hS' ?_)
  obtain ⟨hp', g', d', tk', os'⟩ := s'
  obtain ⟨m1, m2, m3, m4, m5⟩ := hm
  dsimp only at m1 m2 m3 m4 m5
  subst m2 m3 m4
  refine wpAny_pure (h hp' tk' _ (fun c o e => ?_) (bytesV_of hacc))
  have hlt : @LT.lt Nat _ c s.heap.objs.size := Heap.lt_size e
  rw [hSs] at hlt
  refine m1 c o ?_ (upG _ _ (up _ _ e))
  intro q
  rcases List.mem_cons.mp q with q | q
  · exact Nat.ne_of_lt hlt q
  · have : c = I := List.mem_singleton.mp q
    rw [this, hszH] at hlt
    exact absurd hlt (Nat.not_lt_of_le (Nat.le_succ _))
end
end Mine
end
section
open PySem PySem.W PySem.Calls PyProof.Rows
open AutoSeq1 (wpAny_loadPart')
set_option Elab.async false
set_option maxRecDepth 100000
set_option maxHeartbeats 4000000
namespace Mine
section
variable {prog : Program} {w : World} {A : Around} {E : Value → Shared → Prop} {s : Shared}
theorem code_tuple_ba {a : Addr} {b : Array UInt8} {Q₁ : Value → Shared → Prop} (hh : A.handled = none) (ha : s.heap.get? a = some (baOf b)) (hsz : b.size ≤ sizeLine)
    (h : ∀ (h' : Heap) (tk : Tok) (acc : List Value), (∀ c o, s.heap.get? c = some o → h'.get? c = some o) → bytesV b acc → Q₁ (.ref h'.objs.size) { s with heap := h'.push { cls := .type "tuple", data := .seq acc.toArray }, toks := tk }) :
    codeAny (model prog w) A (.call (.builtin "tuple.__new__") ⟨[.type "tuple", .ref a], []⟩) (wants Q₁ E) s := by
  refine codeAny_of_tree ?_
  show wpAny _ A.in1 (do checkBuiltinCall "tuple.__new__" ⟨[.type "tuple", .ref a], []⟩; again (.builtin "tuple.__new__" ⟨[.type "tuple", .ref a], []⟩)) _ _ s
  refine wpAny_bind (wpAny_of_eq (F.newCall_tuple_1 _) (wpAny_pure ⟨plainId_quiet F.plain_tuple_new _, codeAny_builtin F.entry_tuple_new ?_⟩))
  rw [Around.under_plainId F.plain_tuple_new _]
  have hsub := sub_tuple_self
  have hinit := init_tuple_lookup
  have hmh := madeHere_tuple
  have hTI := ba_type ha
  wp_walk using wpAny_typeOf hTI, ba_collect (A := A.in1) hh ha hsz
  intro h' tk acc hk hb
  show wpAny _ _ (Builtin.Tuple.tupleExact acc.toArray >>= fun v => ret v) _ _ _
  unfold Builtin.Tuple.tupleExact
  have hl : acc.toArray.size ≤ sizeLine := by
    rw [List.size_toArray]
    have e : acc.length = b.size := by
      have := IntsAre.length hb
      simpa using this
    rw [e]; exact hsz
  exact wpAny_bind (wpAny_newObj_type (wpAny_pure (h h' tk acc hk hb)) hl)
/-- tuple(bytearray) -/
theorem ba_tuple {a : Addr} {b : Array UInt8} {Q : Value → Shared → Prop} (hh : A.handled = none) (ha : s.heap.get? a = some (baOf b)) (hsz : b.size ≤ sizeLine)
    (h : ∀ (h' : Heap) (tk : Tok) (acc : List Value), (∀ c o, s.heap.get? c = some o → h'.get? c = some o) → bytesV b acc → Q (.ref h'.objs.size) { s with heap := h'.push { cls := .type "tuple", data := .seq acc.toArray }, toks := tk }) :
    wpAny (model prog w) A (call (.type "tuple") [.ref a]) Q E s := by
  refine callType_codes (Q₁ := fun obj s₁ => s₁.TypeIs obj "tuple" ∧ Q obj s₁) F.called_tuple (F.typeCall_tuple_1 _) F.entry_object_init
    (code_tuple_ba (A := A.in1) hh ha hsz fun h' tk acc hk hb => ⟨⟨_, Heap.get?_push_size _ rfl, rfl⟩, h h' tk acc hk hb⟩) fun obj s₁ h₁ => ?_
  exact ⟨h₁.1, F.args_object_init_2 obj _, object_init_meets F.called_tuple.init.lookup F.called_tuple.made (by decide) prog w A.in1 _ s₁ ⟨h₁.1, rfl, h₁.2⟩⟩
end
end Mine
end
section
open PySem PySem.W PySem.Calls PyProof.Rows
set_option Elab.async false
set_option maxRecDepth 100000
set_option maxHeartbeats 4000000
namespace Mine
section
variable {prog : Program} {w : World} {A : Around} {E : Value → Shared → Prop} {s : Shared} {h₀ : Heap} {L : Addr} {m : Str → Option Value} {news : List (Addr × Obj)}
/-- colours[i:j] within the bounds, its slice just made -/
theorem ba_sliceN {value slice : Expr} {p : Addr} {b : Array UInt8} {ii jj : Int} {i j : Nat} {u v : Tok} {Q : Value → Shared → Prop} (F : Fr h₀ L s.heap m) (N : News h₀ L s.heap news) (hp : (p, baOf b) ∈ news) (hi : ii = (i : Int)) (hj : jj = (j : Int)) (hij : i ≤ j) (hjb : j ≤ b.size) (hsz : b.size ≤ sizeLine)
    (h : ∀ D h', Fr h₀ L h' m → News h₀ L h' ((D, baOf ((b.toList.drop i).take (j - i)).toArray) :: news) → Q (.ref D) { s with heap := h' })
    (hs : subscripted slice false (.ref p) (.ref s.heap.objs.size) = operate [.ref s.heap.objs.size, .ref p] (getItem (.ref p) (.ref s.heap.objs.size)) := by with_unfolding_all rfl)
    (hg : ∀ r, letTemporaryGo value (.ref p) r = pure () := by intro _; with_unfolding_all rfl) :
    wpAny (model prog w) A (subscriptTail value slice (.ref p) (.ref s.heap.objs.size)) Q E { s with heap := s.heap.push { cls := .type "slice", data := .fields #[.int ii u, .int jj v, .none] } } := by
  subst hi hj
  have up : ∀ c o, s.heap.get? c = some o → (s.heap.push { cls := .type "slice", data := .fields #[.int (i : Int) u, .int (j : Int) v, .none] }).get? c = some o := fun _ _ e => Heap.get?_push_of_some _ e
  have hP := up _ _ (N _ hp).1
  refine subscriptTail_ops (s := { s with heap := s.heap.push { cls := .type "slice", data := .fields #[.int (i : Int) u, .int (j : Int) v, .none] } }) (ba_type hP) BA.slotGetitem.lookup
    (ba_slice hP (Heap.IsSliceOf.new ..) hij hjb hsz ?_) hs hg
  obtain ⟨F', N', _⟩ := news_new (o := baOf ((b.toList.drop i).take (j - i)).toArray) (F.keeps up) (N.grown up) (fun c o e => Heap.get?_push_of_some _ e) (Heap.get?_push_size _ rfl) (Nat.le_refl _)
  exact h _ _ F' N'
/-- tuple(bytearray) -/
theorem ba_tupleN {p : Addr} {b : Array UInt8} {Q : Value → Shared → Prop} (F : Fr h₀ L s.heap m) (N : News h₀ L s.heap news) (hh : A.handled = none) (hp : (p, baOf b) ∈ news) (hsz : b.size ≤ sizeLine)
    (h : ∀ T h' tk acc, Fr h₀ L h' m → News h₀ L h' ((T, tupOf acc) :: news) → (∀ q ∈ news, q.1 < T) → bytesV b acc → Q (.ref T) { s with heap := h', toks := tk }) :
    wpAny (model prog w) A (call (.type "tuple") [.ref p]) Q E s :=
  ba_tuple hh (N _ hp).1 hsz fun h' tk acc hk hb => by
    have hsz' : ∀ q ∈ news, q.1 < h'.objs.size := fun q hq => Heap.lt_size (hk _ _ (N q hq).1)
    obtain ⟨F', N', _⟩ := news_new (o := tupOf acc) (F.keeps hk) (N.grown hk) (fun c o e => Heap.get?_push_of_some _ e) (Heap.get?_push_size _ rfl) (Nat.le_refl _)
    exact h _ _ tk acc F' N' hsz' hb
/-- alphas[k] within the bounds -/
theorem ba_itemN {value slice : Expr} {a : Addr} {b : Array UInt8} {k : Nat} {t : Tok} {x : UInt8} {Q : Value → Shared → Prop} (N : News h₀ L s.heap news) (hm : (a, baOf b) ∈ news) (hk : b[k]? = some x) (hfit : (k : Int) < 2 ^ 63)
    (h : Q (.int x.toNat s.toks) { s with toks := s.toks + 1 })
    (hs : subscripted slice false (.ref a) (.int (k : Int) t) = operate [.ref a, .int (k : Int) t] (getItem (.ref a) (.int (k : Int) t)) := by with_unfolding_all rfl) : wpAny (model prog w) A (subscriptTail value slice (.ref a) (.int (k : Int) t)) Q E s :=
  tail_any (ba_type (N _ hm).1) BA.slotGetitem.lookup (ba_item (N _ hm).1 hk hfit h) hs
end
end Mine
end
section
open PySem PySem.W PySem.Calls PyProof.Rows
set_option Elab.async false
set_option maxRecDepth 100000
set_option maxHeartbeats 4000000
namespace Mine
local macro_rules | `(tactic| walk_at "eval ListComp") => `(tactic| (k_here; refine Stop.mk ?_))
local macro_rules | `(tactic| walk_at "exec Assign cons ListComp") => `(tactic| (k_here; refine Stop.mk ?_))
local macro_rules | `(tactic| walk_at "call builtin:len") => `(tactic| (k_here; refine Stop.mk ?_))
local macro_rules | `(tactic| walk_at "compareOp NotEq ref ref") => `(tactic| (k_here; refine Stop.mk ?_))
local macro_rules | `(tactic| walk_at "subscriptTail Name Slice ref ref") => `(tactic| (k_here; refine Stop.mk ?_))
local macro_rules | `(tactic| walk_at "call type:tuple") => `(tactic| (k_here; refine Stop.mk ?_))
local macro_rules | `(tactic| walk_at "subscriptTail Name Name ref int") => `(tactic| (k_here; refine Stop.mk ?_))
local macro_rules | `(tactic| walk_at "binaryOp Add ref ref") => `(tactic| (k_here; refine Stop.mk ?_))
local macro_rules | `(tactic| walk_at "eval Name") => `(tactic| ((with_reducible rename Heap.Ns _ _ _ => nsH); (with_reducible rename _ = some _ => nsE); (k_dflt (refine' wpAny_Name (wpAny_loadName_local ?k1 ?k2 nsH nsE ?_) ?k3; (case k1 => exact rfl); (case k2 => exact rfl); (case k3 => decide)))))
local macro_rules | `(tactic| walk_at "eval Name") => `(tactic| ((with_reducible rename Heap.Ns _ _ _ => nsH); (with_reducible rename News _ _ _ _ => nN); (k_dflt (refine' wpAny_Name (wpAny_loadName_cell ?k1 ?k2 ?kc ⟨_, (News.get nN ?km), ?kd⟩ ?_) ?k3; (case k1 => exact rfl); (case k2 => exact rfl); (case kc => exact rfl); (case km => k_mem); (case kd => assumption); (case k3 => decide)))))
theorem TupEnd.intro {h₀ h' : Heap} {L : Addr} {m : Str → Option Value} {ok : Nat → List Int → Prop} {i : Nat} {C : Addr} {led : List (Addr × Obj)} {s₁ : Shared} {T : Addr} {vs : List Value} {ns : List Int} {tk' : Tok}
    (hI : IntsAre vs ns) (h5 : ns.length ≤ 5) (hok : ok i ns) (F : Fr h₀ L h' m) (hlt : C < T) (N : News h₀ L h' ((T, tupOf vs) :: led)) : TupEnd h₀ L m ok i C led s₁ (.ref T) { s₁ with heap := h', toks := tk' } :=
  ⟨T, vs, ns, h', tk', rfl, hI, h5, hok, rfl, F, hlt, N⟩
theorem News.drop3 {h₀ h : Heap} {L : Addr} {a b c d : Addr × Obj} {rest : List (Addr × Obj)} (N : News h₀ L h (a :: b :: c :: d :: rest)) : News h₀ L h (a :: rest) := fun q hq => N q (by
  rcases List.mem_cons.mp hq with rfl | hq
  · exact .head _
  · exact .tail _ (.tail _ (.tail _ (.tail _ hq))))
set_option pp.deepTerms false in
theorem st5c : ∀ (w : World) (mean : ExcName → Option Value) (mg mb : Str → Option Value) (L a : Addr) (ccd : Value) (h₀ : Heap) (m0 : Str → Option Value) (s : Shared) (Q : Flow → Shared → Prop) (E : Value → Shared → Prop) (e f p t : Addr) (al : Value) (t4 : Tok) (n2 : Nat) (of o1 o2 o3 : Obj) (es : List (Addr × Obj)) (P : List (List Int))
  (_ : Below callerA h₀ [] h₀) (_ : Fr h₀ L s.heap (fun y => if y = Str.ofString "entries" then some (.ref e) else m0 y)) (_ : (hd.heap_39 w.params).In h₀)
  (_ : News h₀ L s.heap ((L + 1 + 1 + 1, o1) :: (L + 1 + 1, o2) :: (L + 1, o3) :: (t, baOf (alphOf P).toArray) :: (p, baOf (colsOf P).toArray) :: (e, listOf (refs es).toArray n2) :: (f, of) :: es)) (_ : Top hd.view_39 (looseW hd.view_39 []) mean mg mb h₀) (_ : Ents es P) (_ : okPal P = true)
  (_ : noCell of) (_ : o1.data = .cell (some (.int (fours P : Nat) t4))) (_ : o2.data = .cell (some al)) (_ : o3.data = .cell (some (.ref p))) (_ : alphOf P = [] → al = .none) (_ : alphOf P ≠ [] → al = .ref t)
  (_ : ∀ (h' : Heap) (tk' : Tok) (m' : Str → Option Value), m' (Str.ofString "found") = m0 (Str.ofString "found") → Fr h₀ L h' m' → News h₀ L h' [(f, of)] → Q .next { s with heap := h', toks := tk' }),
  wpAny (model Challenge.rw_ax6025_01.row.prog w) (callerA.deeper (lawEnv L a ccd)) (execs (fineBody 3) (lawEnv L a ccd)) Q E s := by
  w_on
  k_fill
  intros
  rename_i w mean mg mb L a ccd h₀ m0 s Q E e f p t al t4 n2 of o1 o2 o3 es P B F X N T hE hok hof d1 d2 d3 ha0 ha1 hQ
  have hlE := hE.length
  obtain ⟨hp0, hp1, hfr⟩ := okPal_parts hok
  have h34 := fun r hr => (rows34 hok r hr).1
  have hcl := cols_len h34
  have hal := alph_len h34
  have hel : es.length ≤ sizeLine := by
    have : 300 ≤ sizeLine := by decide
    omega
  conv in execs _ _ => arg 1; whnf
  refine wpAny_execs_cons ?_
  generalize hrest : execs (_ :: _) _ = rest
  k_steps
  unfold Stop
  k_dflt (refine' assignU (fun k ns => P[k]? = some ns) F ?hsw ?hL ?hy ?hp ?hA ?hclos ?hcell ?hkind ?hnames ?hx ?_ ?hs)
  case hsw => with_unfolding_all rfl
  case hL => rfl
  case hy => rfl
  case hp => rfl
  case hA => exact rfl
  case hclos => exact rfl
  case hcell => decide
  case hkind => exact rfl
  case hnames => decide
  case hx => exact rfl
  case hs => (intro _; exact rfl)
  k_steps
  unfold Stop
  refine len_refs (N.get (a := e) (.tail _ (.tail _ (.tail _ (.tail _ (.tail _ (.head _))))))) hel ?_
  k_steps
  (rename Fr _ _ _ _ => F3)
  (rename News _ _ _ _ => N3)
  rename IsRange _ _ _ _ _ _ _ _ => hr
  refine ⟨_, es.length, _, _, _, _, rfl, hr, by omega, F3, N3, ?_, ?_⟩
  · intro i tj ys C D oC es2 own2 k h tk E' mC hi2 F4 N4 hNs hm hCD
    clear F3 N3
    dsimp only
    have hiP : i < P.length := by omega
    have hC4 := (N4 (C, oC) (.head _)).1
    obtain ⟨r, hr9⟩ : ∃ r, P[i]? = some r := ⟨P[i], List.getElem?_eq_getElem hiP⟩
    have hrow := rows34 hok r (List.mem_of_getElem? hr9)
    have hcsz : (colsOf P).toArray.size = 3 * P.length := by rw [List.size_toArray, hcl]
    have hat := cols_at h34 hr9
    have hfl := fours_lt hfr hr9
    have hNs4 := hNs
    have hm4 := hm
    k_steps
    unfold Stop
    (rename Fr _ _ _ _ => F5)
    (rename News _ _ _ _ => N5)
    k_dflt (refine' ba_sliceN (b := (colsOf P).toArray) (i := 3 * i) (j := 3 * i + 3) F5 N5 ?_ ?_ ?_ ?_ ?_ ?_ ?_ ?hs ?hg)
    case hs => with_unfolding_all rfl
    case hg => (intro _; with_unfolding_all rfl)
    · exact .tail _ (.tail _ (List.mem_append_left _ (.tail _ (.tail _ (.tail _ (.tail _ (.head _)))))))
    · dsimp only [Int.natCast_mul, Int.natCast_add]
      first | rfl | omega
    · first | rfl | omega
    · omega
    · omega
    · rw [hcsz]
      have : 1024 ≤ sizeLine := by decide
      omega
    intro D2 h6 F6 N6
    clear F5 N5
    rw [show 3 * i + 3 - 3 * i = 3 by omega, show (colsOf P).toArray.toList = colsOf P from rfl, hat] at N6
    k_steps
    unfold Stop
    k_dflt (refine' ba_tupleN F6 N6 rfl (.head _) ?_ ?_)
    · rw [List.size_toArray]
      have : (octets (r.take 3)).length ≤ 3 := by unfold octets; rw [List.length_map, List.length_take]; omega
      have : 1024 ≤ sizeLine := by decide
      omega
    intro T7 h7 tk7 acc F7 N7 hlt7 hb7
    clear F6 N6
    have hI7 : IntsAre acc (r.take 3) := by
      have := hb7
      unfold bytesV at this
      rw [show (octets (r.take 3)).toArray.toList = octets (r.take 3) from rfl, show ((octets (r.take 3)).map fun x => (x.toNat : Int)) = (octets (r.take 3)).map oct from rfl, octs_of (fun n hn => hrow.2 n (List.mem_of_mem_take hn))] at this
      exact this
    have hC7 := (N7 (C, oC) (.tail _ (.tail _ (.head _)))).1
    have hNs7 : h7.Ns C mC := hNs.at' fun o q => by rw [hC4] at q; rw [← Option.some.inj q]; exact hC7
    clear hNs
    have hm7 := hm
    have hacc : acc.length = 3 := by
      rw [hI7.length, List.length_take]
      have := hrow.1
      omega
    k_steps
    · rename _ < _ => hlt
      (rename News _ _ _ _ => N8)
      have h4r : r.length = 4 := hfl.2.mp (by omega)
      obtain ⟨x, hx3⟩ : ∃ x, r[3]? = some x := ⟨r[3], List.getElem?_eq_getElem (by omega)⟩
      have haa := alph_at hfr hr9 hx3
      have hane : alphOf P ≠ [] := fun q => by rw [q] at haa; simp at haa
      obtain rfl := ha1 hane
      k_dflt (refine' ba_itemN (b := (alphOf P).toArray) (x := x.toNat.toUInt8) N8 ?_ ?_ ?_ ?_ ?hs)
      case hs => with_unfolding_all rfl
      · exact .tail _ (.tail _ (.tail _ (.tail _ (List.mem_append_left _ (.tail _ (.tail _ (.tail _ (.head _))))))))
      · simpa using haa
      · omega
      k_steps
      unfold Stop
      (rename Fr _ _ _ _ => F9)
      (rename News _ _ _ _ => N9)
      k_dflt (refine' add_tuples (vs := acc) (ws := [_]) F9 N9 ⟨_, (N9 _ (.tail _ (.head _))).1, rfl, _, rfl⟩ ⟨_, (N9 _ (.head _)).1, rfl, _, rfl⟩ ?_ ?_ ?_ ?_)
      · intro q; rw [q] at hacc; exact absurd hacc (by decide)
      · intro _ q; cases q
      · intro _ _ h8 F8 N8
        have hx : (((x.toNat.toUInt8).toNat : Nat) : Int) = x := oct_of (hrow.2 x (List.mem_of_getElem? hx3)).1 (hrow.2 x (List.mem_of_getElem? hx3)).2
        have er : r = r.take 3 ++ [x] := by
          match r, h4r, hx3 with
          | [x0, x1, x2, x3], _, hx3 =>
            obtain rfl : x3 = x := by simpa using hx3
            rfl
        refine TupEnd.intro (ns := r) ?_ (by omega) hr9 F8 ?_ (News.drop3 N8)
        · rw [er]
          exact hI7.append (by rw [hx]; exact .cons _ _ .nil)
        · exact Heap.lt_size (N9 (C, oC) (.tail _ (.tail _ (.tail _ (.head _))))).1
      · rw [hacc]
        have : 1024 ≤ sizeLine := by decide
        show 3 + 1 ≤ sizeLine
        omega
    · rename ¬ (_ < _) => hlt
      unfold Stop
      (rename Fr _ _ _ _ => F9)
      (rename News _ _ _ _ => N9)
      k_dflt (refine' add_tuples (vs := acc) (ws := []) F9 N9 ⟨_, (N9 _ (.tail _ (.head _))).1, rfl, _, rfl⟩ ⟨_, (N9 _ (.head _)).1, rfl, _, rfl⟩ ?_ ?_ ?_ ?_)
      · intro q; rw [q] at hacc; exact absurd hacc (by decide)
      · intro _ _
        have h3r : r.length = 3 := by
          rcases hrow.1 with q | q
          · exact q
          · exact absurd (hfl.2.mpr q) (by omega)
        have er : r.take 3 = r := List.take_of_length_le (by omega)
        rw [er] at hI7
        refine TupEnd.intro (vs := acc) (ns := r) hI7 (by omega) hr9 F9 ?_ (fun q hq => N9 q ?_)
        · exact hlt7 (C, oC) (.tail _ (.head _))
        · rcases List.mem_cons.mp hq with rfl | hq
          · exact .tail _ (.head _)
          · exact .tail _ (.tail _ (.tail _ hq))
      · intro _ q; exact absurd rfl q
      · rw [hacc]
        have : 1024 ≤ sizeLine := by decide
        show 3 + 0 ≤ sizeLine
        omega
  · intro D kd h5 tk5 es2 P2 F5 N5 hnD hE2 hl2 hP2
    clear F3 N3
    dsimp only
    subst hrest
    have e2 : P2 = P := by
      apply List.ext_getElem? 
      intro i
      cases h9 : P2[i]? with
      | some ns => exact (hP2 i ns h9).symm
      | none =>
        rw [List.getElem?_eq_none_iff] at h9
        rw [eq_comm, List.getElem?_eq_none_iff]
        omega
    subst e2
    k_steps
    unfold Stop
    refine ne_of_rc (ne_pals (P := P2) hE hE2 (N5.get (.head _)) (N5.get (a := e) (.tail _ (List.mem_append_left _ (.tail _ (.tail _ (.tail _ (.tail _ (.tail _ (.head _))))))))) (fun q hq => (N5 q (.tail _ (List.mem_append_left _ (.tail _ (.tail _ (.tail _ (.tail _ (.tail _ (.tail _ (.tail _ hq)))))))))).1) (fun q hq => (N5 q (.tail _ (List.mem_append_right _ hq))).1) (by first | exact (by decide : 8 < cLine) | exact (by decide : 9 < cLine) | exact (by decide : 10 < cLine) | exact (by decide : 7 < cLine)| exact (by decide : 6 < cLine))) ?_
    by_cases ha : alphOf P2 = []
    · obtain rfl := ha0 ha
      k_steps
      (rename Fr _ _ _ _ => F9)
      (rename News _ _ _ _ => N9)
      refine hQ h5 tk5 _ ?_ F9 (fun q hq => N9 q ?_)
      · rfl
      rw [List.mem_singleton.mp hq]
      exact .tail _ (List.mem_append_left _ (.tail _ (.tail _ (.tail _ (.tail _ (.tail _ (.tail _ (.head _))))))))
    · obtain rfl := ha1 ha
      k_steps
      unfold Stop
      have has : (alphOf P2).toArray.size = fours P2 := by rw [List.size_toArray, hal]
      have hf4 : fours P2 ≤ P2.length := List.length_filter_le _ _
      (rename News _ _ _ _ => N8)
      refine ba_len (N8.get (a := t) (.tail _ (List.mem_append_left _ (.tail _ (.tail _ (.tail _ (.head _))))))) (by rw [has]; omega) ?_
      rw [has]
      k_steps
      · exfalso
        rename ¬ (_ = _) => hy
        exact hy rfl
      (rename Fr _ _ _ _ => F9)
      (rename News _ _ _ _ => N9)
      refine hQ h5 _ _ ?_ F9 (fun q hq => N9 q ?_)
      · rfl
      rw [List.mem_singleton.mp hq]
      exact .tail _ (List.mem_append_left _ (.tail _ (.tail _ (.tail _ (.tail _ (.tail _ (.tail _ (.head _))))))))
end Mine
end
section
open PySem PySem.W PySem.Calls PyProof.Rows
set_option Elab.async false
set_option maxRecDepth 100000
set_option maxHeartbeats 4000000
namespace Mine
local macro_rules | `(tactic| walk_at "eval ListComp") => `(tactic| (k_here; refine Stop.mk ?_))
local macro_rules | `(tactic| walk_at "exec Assign cons ListComp") => `(tactic| (k_here; refine Stop.mk ?_))
local macro_rules | `(tactic| walk_at "storeName") => `(tactic| (k_here; refine Stop.mk ?_))
local macro_rules | `(tactic| walk_at "call builtin:len") => `(tactic| (k_here; refine Stop.mk ?_))
local macro_rules | `(tactic| walk_at "compareOp NotEq ref ref") => `(tactic| (k_here; refine Stop.mk ?_))
local macro_rules | `(tactic| walk_at "compareOp NotEq bool bool") => `(tactic| (k_here; refine Stop.mk ?_))
local macro_rules | `(tactic| walk_at "eval Name") => `(tactic| ((with_reducible rename Heap.Ns _ _ _ => nsH); (with_reducible rename _ = some _ => nsE); (k_dflt (refine' wpAny_Name (wpAny_loadName_local ?k1 ?k2 nsH nsE ?_) ?k3; (case k1 => exact rfl); (case k2 => exact rfl); (case k3 => decide)))))
local macro_rules | `(tactic| walk_at "eval Name") => `(tactic| ((with_reducible rename Heap.Ns _ _ _ => nsH); (with_reducible rename News _ _ _ _ => nN); (k_dflt (refine' wpAny_Name (wpAny_loadName_cell ?k1 ?k2 ?kc ⟨_, (News.get nN ?km), ?kd⟩ ?_) ?k3; (case k1 => exact rfl); (case k2 => exact rfl); (case kc => exact rfl); (case km => k_mem); (case kd => assumption); (case k3 => decide)))))
set_option pp.deepTerms false in
theorem st5b : ∀ (w : World) (mean : ExcName → Option Value) (mg mb : Str → Option Value) (L a : Addr) (ccd : Value) (h₀ : Heap) (m0 : Str → Option Value) (s : Shared) (Q : Flow → Shared → Prop) (E : Value → Shared → Prop) (e f p t : Addr) (al : Value) (n2 : Nat) (of o1 o2 o3 : Obj) (v1 : Option Value) (es : List (Addr × Obj)) (P : List (List Int))
  (_ : Below callerA h₀ [] h₀) (_ : Fr h₀ L s.heap (fun y => if y = Str.ofString "entries" then some (.ref e) else m0 y)) (_ : (hd.heap_39 w.params).In h₀)
  (_ : News h₀ L s.heap ((L + 1 + 1 + 1, o1) :: (L + 1 + 1, o2) :: (L + 1, o3) :: (t, baOf (alphOf P).toArray) :: (p, baOf (colsOf P).toArray) :: (e, listOf (refs es).toArray n2) :: (f, of) :: es)) (_ : Top hd.view_39 (looseW hd.view_39 []) mean mg mb h₀) (_ : Ents es P) (_ : okPal P = true)
  (_ : noCell of) (_ : o1.data = .cell v1) (_ : o2.data = .cell (some al)) (_ : o3.data = .cell (some (.ref p))) (_ : alphOf P = [] → al = .none) (_ : alphOf P ≠ [] → al = .ref t)
  (_ : ∀ (h' : Heap) (tk' : Tok) (m' : Str → Option Value), m' (Str.ofString "found") = m0 (Str.ofString "found") → Fr h₀ L h' m' → News h₀ L h' [(f, of)] → Q .next { s with heap := h', toks := tk' }),
  wpAny (model Challenge.rw_ax6025_01.row.prog w) (callerA.deeper (lawEnv L a ccd)) (execs (fineBody 1) (lawEnv L a ccd)) Q E s := by
  w_on
  k_fill
  intros
  rename_i w mean mg mb L a ccd h₀ m0 s Q E e f p t al n2 of o1 o2 o3 v1 es P B F X N T hE hok hof d1 d2 d3 ha0 ha1 hQ
  have hlE := hE.length
  obtain ⟨hp0, hp1, hfr⟩ := okPal_parts hok
  have h34 := fun r hr => (rows34 hok r hr).1
  have hcl := cols_len h34
  have hal := alph_len h34
  conv in execs _ _ => arg 1; whnf
  refine wpAny_execs_cons ?_
  generalize hrest : execs (_ :: _) _ = rest
  k_steps
  unfold Stop
  k_dflt (refine' comp4 F ?hA ?hclos ?hcell ?hkind ?hnames ?hx ?helt ?_ ?hs)
  case hA => exact rfl
  case hclos => first | exact closureFor_none (by decide) | exact rfl
  case hcell => decide
  case hkind => exact rfl
  case hnames => decide
  case hx => exact rfl
  case hs => (intro _; exact rfl)
  case helt =>
    intro env' s' Q' E' hq
    k_steps
    exact hq _ _
  k_steps
  refine ⟨_, es, P, n2, _, rfl, hE, by omega, F, N, (.tail _ (.tail _ (.tail _ (.tail _ (.tail _ (.head _)))))), ?_, ?_⟩
  · intro a2 vs ns ys C D oC own k h tk E' mC hm hI h5 F4 N4 hNs hmC hCD
    k_steps
    unfold Stop
    (rename News _ _ _ _ => N5)
    refine len_ints (N5 _ (.tail _ (.tail _ (List.mem_append_left _ (.tail _ (.tail _ (.tail _ (.tail _ (.tail _ (.tail _ (.tail _ hm))))))))))).1 hI h5 ?_
    k_steps
    · rw [Bool.eq_iff_iff, beq_iff_eq, beq_iff_eq]; omega
    · (rename Fr _ _ _ _ => F9); exact F9
    · (rename News _ _ _ _ => N9); exact N9
  · intro D k h tk ys zs F4 N4 hnD hI hl
    clear F N
    dsimp only
    k_steps
    unfold Stop
    have hys : ys.toArray.size = fours P := by rw [List.size_toArray, hI.length, hl]
    have hf4 : fours P ≤ P.length := List.length_filter_le _ _
    refine Calls.call_len_list ⟨_, (N4 _ (.head _)).1, rfl, _, rfl⟩ (by rw [hys]; omega) ?_
    rw [hys]
    k_steps
    unfold Stop
    have hes := ents_nocell hE
    have hba : ∀ b, noCell (baOf b) := fun b v q => nomatch q
    have hli : ∀ xs n, noCell (listOf xs n) := fun xs n v q => nomatch q
    refine stCell (q := [(D, _)]) F4 N4 rfl d1 ?_ ?_
    · intro q hq
      simp only [List.mem_cons, List.mem_append, List.not_mem_nil, or_false] at hq
      rcases hq with rfl | rfl | rfl | rfl | rfl | rfl | rfl | hq
      · exact .inr (hli _ _)
      · exact .inl (Nat.ne_of_lt (Nat.lt_succ_self _))
      · exact .inl (Nat.ne_of_lt (Nat.lt_succ_of_lt (Nat.lt_succ_self _)))
      · exact .inr (hba _)
      · exact .inr (hba _)
      · exact .inr (hli _ _)
      · exact .inr hof
      · exact .inr (hes _ hq)
    intro h5 o1' F5 N5 d1'
    replace N5 := News.sub N5 (.cons _ (.refl _))
    clear F4 N4 d1
    dsimp only
    subst hrest
    have hel : es.length ≤ sizeLine := by
      have : 300 ≤ sizeLine := by decide
      omega
    by_cases ha : alphOf P = []
    · obtain rfl := ha0 ha
      have h0 : (((fours P : Nat) : Int) == 0) = true := by
        have : fours P = 0 := by rw [← hal, ha]; rfl
        rw [this]; rfl
      refine wpAny_execs_cons ?_
      generalize hrest : execs (_ :: _) _ = rest
      k_steps
      unfold Stop
      rw [h0]
      refine ne_of_rc (SeqAt.RcNeAt.bool_bool true true) ?_
      rw [show (!(true == true)) = false from rfl]
      k_steps
      unfold Stop
      have hcs : ((colsOf P).toArray.size : Int) = 3 * (es.length : Int) := by rw [List.size_toArray, hcl, hlE]; omega
      (rename News _ _ _ _ => N6)
      refine ba_len (N6.get (a := p) (.tail _ (.tail _ (.tail _ (.tail _ (.head _)))))) (by rw [hcs]; omega) ?_
      rw [hcs]
      k_steps
      unfold Stop
      refine len_refs (N6.get (a := e) (.tail _ (.tail _ (.tail _ (.tail _ (.tail _ (.head _))))))) hel ?_
      k_steps
      · exfalso
        rename ¬ (_ = _) => hy
        exact hy rfl
      · (rename Fr _ _ _ _ => F7)
        (rename News _ _ _ _ => N7)
        dsimp only
        subst hrest
        exact st5c w mean mg mb L a ccd h₀ m0 _ Q E e f p t _ _ n2 of _ _ _ es P B F7 X N7 T hE hok hof d1' d2 d3 ha0 ha1 hQ
    · obtain rfl := ha1 ha
      have h0 : (((fours P : Nat) : Int) == 0) = false := by
        have : (alphOf P).length ≠ 0 := fun q => ha (List.length_eq_zero_iff.mp q)
        rw [hal] at this
        rw [beq_eq_false_iff_ne]
        omega
      refine wpAny_execs_cons ?_
      generalize hrest : execs (_ :: _) _ = rest
      k_steps
      unfold Stop
      rw [h0]
      refine ne_of_rc (SeqAt.RcNeAt.bool_bool false false) ?_
      rw [show (!(false == false)) = false from rfl]
      k_steps
      unfold Stop
      have hcs : ((colsOf P).toArray.size : Int) = 3 * (es.length : Int) := by rw [List.size_toArray, hcl, hlE]; omega
      (rename News _ _ _ _ => N6)
      refine ba_len (N6.get (a := p) (.tail _ (.tail _ (.tail _ (.tail _ (.head _)))))) (by rw [hcs]; omega) ?_
      rw [hcs]
      k_steps
      unfold Stop
      refine len_refs (N6.get (a := e) (.tail _ (.tail _ (.tail _ (.tail _ (.tail _ (.head _))))))) hel ?_
      k_steps
      · exfalso
        rename ¬ (_ = _) => hy
        exact hy rfl
      · (rename Fr _ _ _ _ => F7)
        (rename News _ _ _ _ => N7)
        dsimp only
        subst hrest
        exact st5c w mean mg mb L a ccd h₀ m0 _ Q E e f p t _ _ n2 of _ _ _ es P B F7 X N7 T hE hok hof d1' d2 d3 ha0 ha1 hQ
end Mine
end
section
open PySem PySem.W PySem.Calls PyProof.Rows
set_option Elab.async false
set_option maxRecDepth 100000
set_option maxHeartbeats 4000000
namespace Mine
theorem wpC_execs_appC {prog : Program} {w : World} {A : Around} {E : Value → Shared → Prop} {s : Shared} {env : Env} {l rest : List Stmt} {Q : Flow → Shared → Prop} (h : wpC (model prog w) A (execs l env) (fun f s' => match f with | .next => wpC (model prog w) A (execs rest env) Q E s' | f => Q f s') E s) :
    wpC (model prog w) A (execs (l ++ rest) env) Q E s := by
  rw [execs_app]
  refine wpC_bind (wpC_mono h (fun f s' h' => ?_) fun _ _ e => e)
  cases f <;> first | exact h' | exact wpC_pure h'
set_option pp.deepTerms false in
theorem st5 : ∀ (w : World) (mean : ExcName → Option Value) (mg mb : Str → Option Value) (L a : Addr) (ccd : Value) (h₀ : Heap) (m0 : Str → Option Value) (s : Shared) (Q : Flow → Shared → Prop) (E : Value → Shared → Prop) (e f : Addr) (n2 : Nat) (of o1 o2 o3 : Obj) (es : List (Addr × Obj)) (P : List (List Int)) (fine : Bool)
  (_ : Below callerA h₀ [] h₀) (_ : Fr h₀ L s.heap m0) (_ : (hd.heap_39 w.params).In h₀)
  (_ : News h₀ L s.heap ((e, listOf (refs es).toArray n2) :: (f, of) :: (L + 1 + 1 + 1, o1) :: (L + 1 + 1, o2) :: (L + 1, o3) :: es)) (_ : Top hd.view_39 (looseW hd.view_39 []) mean mg mb h₀) (_ : Ents es P) (_ : okPal P = fine)
  (_ : m0 (Str.ofString "fine") = some (.bool fine)) (_ : m0 (Str.ofString "entries") = some (.ref e))
  (_ : noCell of) (_ : o1.data = .cell none) (_ : o2.data = .cell none) (_ : o3.data = .cell none)
  (_ : ∀ (h' : Heap) (tk' : Tok) (m' : Str → Option Value), m' (Str.ofString "found") = m0 (Str.ofString "found") → Fr h₀ L h' m' → News h₀ L h' [(f, of)] → Q .next { s with heap := h', toks := tk' }),
  wpC (model Challenge.rw_ax6025_01.row.prog w) (callerA.deeper (lawEnv L a ccd)) (execs ((lawStmts 5).take 1) (lawEnv L a ccd)) Q E s := by
  w_on
  k_fill
  intros
  rename_i w mean mg mb L a ccd h₀ m0 s Q E e f n2 of o1 o2 o3 es P fine B F X N T hE hok hmf hme hof d1 d2 d3 hQ
  have F1 := fr_again F hmf
  conv in execs _ _ => arg 1; whnf
  refine wpC_execs_cons ?_
  refine wpC_If (wpC_of ?_)
  cases fine
  · k_steps
    (rename Fr _ _ _ _ => F9)
    (rename News _ _ _ _ => N9)
    refine wpC_pure (a := Flow.next) ?_
    refine wpC_pure (a := Flow.next) ?_
    refine hQ _ _ _ ?_ F9 (fun q hq => N9 q ?_)
    · rfl
    · rw [List.mem_singleton.mp hq]
      exact .tail _ (.head _)
  · k_steps
    (rename Fr _ _ _ _ => F9)
    (rename News _ _ _ _ => N9)
    show wpC _ _ (execs ((fineBody 0).take 1 ++ fineBody 1) _) _ _ _
    refine wpC_execs_appC ?_
    refine st5a w mean mg mb L a ccd h₀ _ _ _ _ e f n2 of o1 o2 o3 es P B (fr_again F hme) X N9 T hE hok hof d1 d2 d3 ?_
    intro h' tk' m' p t al o1' o2' o3' me' mf' ha0 ha1 d1' d2' d3' F' N'
    dsimp only
    refine wpC_of (st5b w mean mg mb L a ccd h₀ m' _ _ _ e f p t al n2 of o1' o2' o3' none es P B (fr_again F' me') X N' T hE hok hof d1' d2' d3' ha0 ha1 ?_)
    intro h2 tk2 m2 mf2 F2 N2
    dsimp only
    refine wpC_pure (a := Flow.next) ?_
    exact hQ h2 tk2 m2 (mf2.trans mf') F2 N2
end Mine
end
section
open PySem PySem.W PySem.Calls PyProof.Rows
set_option Elab.async false
set_option maxRecDepth 100000
set_option maxHeartbeats 4000000
namespace Mine
local macro_rules | `(tactic| walk_at "call ref") => `(tactic| (k_here; refine Stop.mk ?_))
theorem nine_of {ws : List Value} {ns : List Int} (h : IntsAre ws ns) (h9 : ns.length = 9) : ∃ a0 a1 a2 a3 a4 a5 a6 a7 a8 t0 t1 t2 t3 t4 t5 t6 t7 t8, ws = [Value.int a0 t0, Value.int a1 t1, Value.int a2 t2, Value.int a3 t3, Value.int a4 t4, Value.int a5 t5, Value.int a6 t6, Value.int a7 t7, Value.int a8 t8] := by
  rcases h with _ | ⟨_, _, h⟩; · cases h9
  rcases h with _ | ⟨_, _, h⟩; · cases h9
  rcases h with _ | ⟨_, _, h⟩; · cases h9
  rcases h with _ | ⟨_, _, h⟩; · cases h9
  rcases h with _ | ⟨_, _, h⟩; · cases h9
  rcases h with _ | ⟨_, _, h⟩; · cases h9
  rcases h with _ | ⟨_, _, h⟩; · cases h9
  rcases h with _ | ⟨_, _, h⟩; · cases h9
  rcases h with _ | ⟨_, _, h⟩; · cases h9
  rcases h with _ | ⟨_, _, h⟩
  · exact ⟨_, _, _, _, _, _, _, _, _, _, _, _, _, _, _, _, _, _, rfl⟩
  · simp at h9
set_option pp.deepTerms false in
theorem lawBody : ∀ (w : World) (mean : ExcName → Option Value) (mg mb : Str → Option Value) (L a : Addr) (ccd : Value) (h₀ : Heap) (m0 : Str → Option Value) (s : Shared) (Q : Flow → Shared → Prop) (E : Value → Shared → Prop) (l : Addr) (vs : List Value) (ns : List Int) (o1 o2 o3 : Obj)
  (_ : Below callerA h₀ [] h₀) (_ : Fr h₀ L s.heap (fun y => if y = Str.ofString "script" then some (.ref l) else m0 y)) (_ : (hd.heap_39 w.params).In h₀)
  (_ : News h₀ L s.heap [(L + 1 + 1 + 1, o1), (L + 1 + 1, o2), (L + 1, o3)]) (_ : Top hd.view_39 (looseW hd.view_39 []) mean mg mb h₀)
  (_ : o1.data = .cell none) (_ : o2.data = .cell none) (_ : o3.data = .cell none) (_ : h₀.IsList l vs.toArray) (_ : IntsAre vs ns) (_ : ns.length ≤ 63)
  (_ : ∀ (h' : Heap) (tk' : Tok) (m' : Str → Option Value), Fr h₀ L h' m' → Q (.ret (.bool true)) { s with heap := h', toks := tk' }),
  wpC (model Challenge.rw_ax6025_01.row.prog w) (callerA.deeper (lawEnv L a ccd)) (execs (lawStmts 0) (lawEnv L a ccd)) Q E s := by
  w_on
  k_fill
  intros
  rename_i w mean mg mb L a ccd h₀ m0 s Q E l vs ns o1 o2 o3 B F X N T d1 d2 d3 hl hi hn hQ
  show wpC _ _ (execs ((lawStmts 0).take 1 ++ lawStmts 1) _) _ _ _
  refine wpC_execs_app ?_
  conv in execs ((lawStmts 0).take 1) _ => arg 1; whnf
  k_steps
  unfold Stop
  (rename Fr _ _ _ _ => F1)
  (rename News _ _ _ _ => N1)
  refine num1 w mean mg mb L a ccd h₀ _ _ _ _ l vs ns _ (L + 1 + 1 + 1, o1) (L + 1 + 1, o2) (L + 1, o3) none none none B F1 X N1 d1 d2 d3 T hl hi hn ?_
  intro h2 tk2 f n ws is hI h9 F2 N2
  clear F1 N1
  obtain ⟨a0, a1, a2, a3, a4, a5, a6, a7, a8, t0, t1, t2, t3, t4, t5, t6, t7, t8, rfl⟩ := nine_of hI h9
  clear hI h9
  k_steps
  show wpAny _ _ (pure Flow.next) _ _ _
  refine wpAny_pure ?_
  show wpC _ _ (execs ((lawStmts 1).take 1 ++ lawStmts 2) _) _ _ _
  refine wpC_execs_app ?_
  conv in execs ((lawStmts 1).take 1) _ => arg 1; whnf
  k_steps
  unfold Stop
  (rename Fr _ _ _ _ => F3)
  (rename News _ _ _ _ => N3)
  refine lpal w mean mg mb L a ccd h₀ _ _ _ _ f a0 a1 a2 a3 a4 a5 a6 a7 a8 n t0 t1 t2 t3 t4 t5 t6 t7 t8 (L + 1 + 1 + 1, o1) (L + 1 + 1, o2) (L + 1, o3) none none none B F3 X N3 T d1 d2 d3 ?_
  intro h4 tk4 D e n2 es P fine hE hes hfine F4 N4
  clear F3 N3
  k_steps
  show wpAny _ _ (pure Flow.next) _ _ _
  refine wpAny_pure ?_
  (rename Fr _ _ _ _ => F5)
  (rename News _ _ _ _ => N5)
  have N6 := News.drop1 N5
  clear N5
  have after : ∀ (h' : Heap) (tk' : Tok) (m' : Str → Option Value), m' (Str.ofString "found") = some (.ref f) → m' (Str.ofString "entries") = some (.ref e) → m' (Str.ofString "fine") = some (.bool fine) → Fr h₀ L h' m' →
      News h₀ L h' ((e, listOf (refs es).toArray n2) :: (f, listOf [Value.int a0 t0, Value.int a1 t1, Value.int a2 t2, Value.int a3 t3, Value.int a4 t4, Value.int a5 t5, Value.int a6 t6, Value.int a7 t7, Value.int a8 t8].toArray n) :: (L + 1 + 1 + 1, o1) :: (L + 1 + 1, o2) :: (L + 1, o3) :: es) →
      wpC (model Challenge.rw_ax6025_01.row.prog w) (callerA.deeper (lawEnv L a ccd)) (execs (lawStmts 5) (lawEnv L a ccd)) Q E { s with heap := h', toks := tk' } := by
    intro h' tk' m' mf me mi F' N'
    show wpC _ _ (execs ((lawStmts 5).take 1 ++ lawStmts 6) _) _ _ _
    refine wpC_execs_appC ?_
    refine st5 w mean mg mb L a ccd h₀ m' _ _ _ e f n2 _ o1 o2 o3 es P fine B F' X N' T hE hfine mi me (fun v q => nomatch q) d1 d2 d3 ?_
    intro h3 tk3 m3 mf3 F3 N3
    dsimp only
    exact stmt6 w mean mg mb L a ccd h₀ m3 _ Q E f a0 a1 a2 a3 a4 a5 a6 a7 a8 n t0 t1 t2 t3 t4 t5 t6 t7 t8 B (fr_again F3 (mf3.trans mf)) X N3 T fun h₉ tk₉ m₉ F₉ => hQ h₉ tk₉ m₉ F₉
  have hesz : es.length ≤ sizeLine := by
    have : 1024 ≤ sizeLine := by decide
    omega
  show wpC _ _ (execs ((lawStmts 2).take 3 ++ lawStmts 5) _) _ _ _
  refine wpC_execs_app ?_
  cases fine
  · exact st24f w mean mg mb L a ccd h₀ _ _ _ _ e f a0 a1 a2 a3 a4 a5 a6 a7 a8 n n2 t0 t1 t2 t3 t4 t5 t6 t7 t8 (L + 1 + 1 + 1, o1) (L + 1 + 1, o2) (L + 1, o3) es P B F5 X N6 T hE hesz hfine (fun h' tk' m' mf me mi F' N' => after h' tk' m' mf me mi F' N')
  · exact st24t w mean mg mb L a ccd h₀ _ _ _ _ e f a0 a1 a2 a3 a4 a5 a6 a7 a8 n n2 t0 t1 t2 t3 t4 t5 t6 t7 t8 (L + 1 + 1 + 1, o1) (L + 1 + 1, o2) (L + 1, o3) es P B F5 X N6 T hE hesz hfine (fun h' tk' m' mf me mi F' N' => after h' tk' m' mf me mi F' N')
end Mine
end
section
open PySem PySem.W PySem.Calls PyProof.Rows
set_option Elab.async false
set_option maxRecDepth 100000
set_option maxHeartbeats 4000000
namespace Mine
section
variable {prog : Program} {w : World} {A : Around} {R : Result → Shared → Prop} {s : Shared}
theorem codeC_call_cells {a : Addr} {o : Obj} {fd : FuncData} {body : List Stmt} {vals : List Value} {binds : List (Str × Value)}
    (hroom : A.depth < recursionLimit) (ho : s.heap.get? a = some o) (hdata : o.data = .func fd) (hlim : s.heap.NoLimit) (hcd : s.heap.CodeRec fd.code fd.qualname)
    (hbody : fd.body = .stmts body) (hbind : bindArgs fd ⟨vals, []⟩ = pure binds) (hclo : fd.closure = [])
    (hkind : ∀ x ∈ binds, fd.scope.names.lookup x.1 = some .local ∨ (fd.scope.names.lookup x.1 = some .cell ∧ ((cellsFrom (s.heap.objs.size + 1) fd.scope.names []).lookup x.1).isSome = true))
    (h : ∀ s₁, InCallC s (callEnvC fd s.heap.objs.size a).locals (bindL (callEnvC fd s.heap.objs.size a).kindOf binds fun _ => none) (callEnvC fd s.heap.objs.size a).cells
        (bindC (callEnvC fd s.heap.objs.size a).kindOf binds fun _ => none) s₁ →
      wpC (model prog w) (A.deeper (callEnvC fd s.heap.objs.size a)) (execs body (callEnvC fd s.heap.objs.size a)) (fun f s' => R (.ok (.ret (match f with | .ret v => v | _ => .none))) s')
        (fun e s' => wpAny (model prog w) (A.deeper (callEnvC fd s.heap.objs.size a)) (leaving (callEnvC fd s.heap.objs.size a) e) (fun _ s'' => R (.error e) s'') (fun e' s'' => R (.error e') s'') s') s₁)
    (hco : fd.scope.isCoroutine = false := by rfl) (hgen : fd.scope.isGenerator = false := by rfl) (hk : fd.scope.kind = .function := by rfl) :
    codeC (model prog w) A (.call (.ref a) ⟨vals, []⟩) R s := by
  refine codeC_call_function hroom ho hdata hco hgen hbody hcd ?_
  rw [hbind, hclo]
  refine wpAny_pure (wpAny_newFunctionEnv_cells hk hkind fun env he s' x => ?_)
  subst he
  exact ⟨hlim.keeps x.toInCall.keep, codeC_func (h s' x)⟩
theorem callC_cells {name : Str} {params : Arguments} {body : List Stmt} {scope : Scope} {pm cd doc : Value} {a : Addr} {o : Obj} {args : List Value} {binds : List (Str × Value)}
    (hroom : A.depth < recursionLimit) (ho : s.heap.get? a = some o) (hdata : o.data = .func (Calls.docDef name params body scope pm cd doc)) (hlim : s.heap.NoLimit) (hcd : s.heap.CodeRec cd name)
    (hbind : bindArgs (Calls.docDef name params body scope pm cd doc) ⟨args, []⟩ = pure binds)
    (hkind : ∀ x ∈ binds, scope.names.lookup x.1 = some .local ∨ (scope.names.lookup x.1 = some .cell ∧ ((cellsFrom (s.heap.objs.size + 1) scope.names []).lookup x.1).isSome = true))
    (hnd : ((cellsFrom 0 scope.names []).map (·.1)).Nodup)
    (h : ∀ h₁ tk cells, Fr s.heap s.heap.objs.size h₁ (bindL (envOfC name scope s.heap.objs.size a cd).kindOf binds fun _ => none) → News s.heap s.heap.objs.size h₁ cells →
      CellsAre (bindC (envOfC name scope s.heap.objs.size a cd).kindOf binds fun _ => none) (cellsFrom (s.heap.objs.size + 1) scope.names []) cells →
      wpC (model prog w) (A.deeper (envOfC name scope s.heap.objs.size a cd)) (execs body (envOfC name scope s.heap.objs.size a cd))
        (fun f s' => R (.ok (.ret (match f with | .ret v => v | _ => .none))) s')
        (fun e s' => wpAny (model prog w) (A.deeper (envOfC name scope s.heap.objs.size a cd)) (leaving (envOfC name scope s.heap.objs.size a cd) e)
          (fun _ s'' => R (.error e) s'') (fun e' s'' => R (.error e') s'') s')
        { s with heap := h₁, toks := tk })
    (hco : scope.isCoroutine = false := by rfl) (hgen : scope.isGenerator = false := by rfl) (hk : scope.kind = .function := by rfl) :
    codeC (model prog w) A (.call (.ref a) ⟨args, []⟩) R s := by
  refine codeC_call_cells (fd := Calls.docDef name params body scope pm cd doc) hroom ho hdata hlim hcd rfl hbind rfl hkind (fun s₁ X => ?_) hco hgen hk
  obtain ⟨h₁, tk, rfl, _⟩ := X.done
  obtain ⟨cells, N, Y⟩ := Cl.news (h₀ := s.heap) (Nat.le_refl _) fun n c hm => ⟨X.cell n c (lookup_of_mem_nodup (cellsFrom_names scope.names 0 (s.heap.objs.size + 1) [] [] rfl ▸ hnd) hm), X.above n c hm⟩
  exact h h₁ tk cells ⟨X.toInCall.ns, X.toInCall.keep, X.toInCall.fresh⟩ N Y
end
theorem cw : Challenge.rw_ax6025_01.Holds := by
  w_on
  o_law
  refine holdsC (q := hd.view_39) (loose := []) (Xt := fun s => xlAt hd.view_39 [] s && recOk (RowW.records Challenge.rw_ax6025_01.row.toRowW) s) (XP := XL hd.view_39 []) (Yf := fun s => asF.map s.heap.get?) (Ya := fun w => (hd.heap_39 w.params).map fun p => some p.2) (YP := InK hd.heap_39) (N := 1640) left (InK.of asEq) InK.keeps
    (fun s e => xl_of s (Bool.and_eq_true_iff.mp e).1) XL.keeps (by rfl) (by rfl) (by rfl) (fun s e => recFacts_of (Bool.and_eq_true_iff.mp e).2) (by rfl) (by first | assumption | decide +kernel) (by decide +kernel) ⟨rfl, rfl, rfl, rfl, rfl, by decide +kernel⟩ ?hw ?hc
  case hw => w_witness2
  case hc =>
    intro w s₀ s₁ mg mb G Y fa o pm cd doc dV kV ho hd' hcd hD hmg hg args vals as hpre hlay hrd hwl hlo
    have KX : (hd.heap_39 w.params).In s₁.heap := Y
    refine Ground.open G ?_
    intro T B D TE TW
    clear hmg
    wrow_args hpre hlay hrd hwl hlo
    rename IntsAre _ _ => hI
    rename Heap.IsList _ _ _ => hL
    rename ¬ (_ < _) => hlen
    have he := Dflts.none hD rfl
    subst he
    have he := Dflts.noKw hD
    subst he
    refine callC_cells (by decide) ho (fd_plain hd') (Top.nolimit T) hcd rfl (kinds_of (by kinds_ok)) (by decide) fun h₁ tk₁ cells F N0 X0 => ?_
    obtain ⟨o1, o2, o3, hE, d1, d2, d3⟩ := CellsAre.three X0
    subst hE
    clear X0 hd' hcd hD B D TE TW
    refine lawBody w _ mg mb s₁.heap.objs.size fa cd s₁.heap (fun _ => none) _ _ _ _ _ _ o1 o2 o3 (below_caller _) ?F KX N0 T d1 d2 d3 hL hI ?len ?_
    case F => with_unfolding_all exact F
    case len => omega
    intro h' tk' m' F'
    refine GoodW.toG (goodW_bool F' hg (raisesW_false ?_) ?_)
    · wrow_none_raised
    · wrow_post
end Mine
end
theorem PySem.Challenge.cw_ax6025_01_holds : PySem.Challenge.rw_ax6025_01.Holds :=
  Mine.cw
