import PyProof.Rows.All
import Wide.All
import OpenK.AllK
import Wide.FinOn
import KE.KSortAsk
import Lean
import PySem.Challenge.RW_nq0040_01
set_option Elab.async false
set_option linter.all false
set_option compiler.extract_closed false
set_option rowWalk.seconds 0
open PySem PySem.W PyProof.Rows PySem.Calls
local macro_rules | `(tactic| walk_at "k1") => `(tactic| first | (k_unfold; (try dsimp only)) | (k_end; kc_close) | walk1 | (dsimp only; walk1) | (leave1; walk_say "STEP leave1"; (try dsimp only)) | fail "no step")
local macro_rules | `(tactic| walk_at "m1") => `(tactic| first | (k_unfold; (try dsimp only)) | walk1 | (dsimp only; walk1) | (leave1; walk_say "STEP leave1"; try dsimp only) | fail "no step")
local macro_rules | `(tactic| walk_at "m_steps") => `(tactic| repeat' (walk_at "m1"))
section
set_option linter.all false
namespace Mine
set_option maxRecDepth 100000

noncomputable def Clr (Γ : Ctx) : Prop := Γ.below.any (fun x => x.1.isCaller) = true
theorem Clr.enter {Γ : Ctx} (h : Clr Γ) (c : Code) (hd : Option Value) (p : Pos) : Clr (Γ.enter c hd p) := by
  show ((Γ.code, p) :: Γ.below).any (fun x => x.1.isCaller) = true
  rw [List.any_cons, h, Bool.or_true]
theorem Clr.goto {Γ : Ctx} (h : Clr Γ) (c : Code) : Clr (Γ.goto c) := h
theorem Clr.first {Γ : Ctx} (h : Γ.code.isCaller = true) (c : Code) (hd : Option Value) (p : Pos) : Clr (Γ.enter c hd p) := by
  show ((Γ.code, p) :: Γ.below).any (fun x => x.1.isCaller) = true
  rw [List.any_cons, h, Bool.true_or]

noncomputable def wpC {α : Type} (M : Model) (A : Around) (t : Sem α) (Q : α → Shared → Prop) (E : Value → Shared → Prop) (s : Shared) : Prop :=
  ∀ Γ p, Γ.In A → Clr Γ → Sem.wp M Γ t (fun a _ s' => Q a s') (fun e _ s' => E e s') p s
noncomputable def codeC (M : Model) (A : Around) (c : Code) (R : Result → Shared → Prop) (s : Shared) : Prop :=
  ∀ Γ p, Γ.code = c → Γ.Below A → Clr Γ → wpCode M Γ R p s

section
variable {α β : Type} {M : Model} {A : Around} {E : Value → Shared → Prop} {s : Shared}
theorem wpC_any {t : Sem α} {Q : α → Shared → Prop} (h : wpAny M A t Q E s) : wpC M A t Q E s := fun Γ p hΓ _ => h Γ p hΓ
theorem wpC_pure {a : α} {Q : α → Shared → Prop} (h : Q a s) : wpC M A (pure a) Q E s := fun _ _ _ _ => h
theorem wpC_mono {t : Sem α} {Q Q' : α → Shared → Prop} {E' : Value → Shared → Prop} (h : wpC M A t Q E s)
    (hQ : ∀ a s, Q a s → Q' a s) (hE : ∀ e s, E e s → E' e s) : wpC M A t Q' E' s :=
  fun Γ p hΓ hc => Sem.wp_mono M Γ t (fun a _ s => hQ a s) (fun e _ s => hE e s) p s (h Γ p hΓ hc)
theorem wpC_bind {m : Sem α} {f : α → Sem β} {Q : β → Shared → Prop} (h : wpC M A m (fun a s' => wpC M A (f a) Q E s') E s) :
    wpC M A (m >>= f) Q E s := fun Γ p hΓ hc => by
  rw [Sem.wp_bind']
  exact Sem.wp_mono M Γ m (fun a p' s' h' => h' Γ p' hΓ hc) (fun _ _ _ h' => h') p s (h Γ p hΓ hc)
theorem wpC_bindA {m : Sem α} {f : α → Sem β} {Q : β → Shared → Prop} (h : wpAny M A m (fun a s' => wpC M A (f a) Q E s') E s) :
    wpC M A (m >>= f) Q E s := wpC_bind (wpC_any h)
theorem wpC_onRaise {m : Sem α} {k : Value → Sem Unit} {Q : α → Shared → Prop}
    (h : wpC M A m Q (fun e s' => wpC M A (k e) (fun _ s'' => E e s'') E s') s) : wpC M A (m.onRaise k) Q E s := fun Γ p hΓ hc => by
  rw [Sem.wp_onRaise]
  exact Sem.wp_mono M Γ m (fun _ _ _ h' => h') (fun e p' s' h' => h' Γ p' hΓ hc) p s (h Γ p hΓ hc)
theorem wpC_attempt {m : Sem α} {Q : Except Value α → Shared → Prop} (h : wpC M A m (fun a => Q (.ok a)) (fun e => Q (.error e)) s) :
    wpC M A m.attempt Q E s := fun Γ p hΓ hc => by rw [Sem.wp_attempt]; exact h Γ p hΓ hc
theorem wpC_holding {vs : List Value} {m : Sem α} {Q : α → Shared → Prop} (h : wpC M A m Q E s) : wpC M A (holding vs m) Q E s :=
  fun Γ p hΓ hc => by rw [Sem.wp_holding]; exact h Γ p hΓ hc
theorem wpC_keep {vs : List Value} {m : Sem α} {Q : α → Shared → Prop} (h : wpC M A m Q E s) : wpC M A (m.keep vs) Q E s :=
  fun Γ p hΓ hc => by rw [Sem.wp_keep]; exact h Γ p hΓ hc
theorem wpC_run {c : Code} {h : Option Value} {Q : Flow → Shared → Prop}
    (hc : codeC M (A.mark h) c (fun r s' => match r with | .ok f => Q f s' | .error e => E e s') s) (hnb : h ≠ some byPass := by intro x; cases x) :
    wpC M A (run c h) Q E s :=
  fun Γ p hΓ hcl => by rw [Sem.wp_run]; exact hc _ p rfl (hΓ.enter c h p hnb) (hcl.enter c h p)
theorem wpC_runValue {c : Code} {Q : Value → Shared → Prop}
    (hc : codeC M A c (fun r s' => match r with | .ok (.ret v) => Q v s' | .ok _ => False | .error e => E e s') s) :
    wpC M A (runValue c) Q E s := fun Γ p hΓ hcl => by rw [Sem.wp_runValue]; exact hc _ p rfl (hΓ.enter c none p (by intro x; cases x)) (hcl.enter c none p)
theorem wpC_call {f : Value} {pos : List Value} {kw : List (Str × Value)} {Q : Value → Shared → Prop}
    (hc : codeC M A (.call f ⟨pos, kw⟩) (fun r s' => match r with | .ok (.ret v) => Q v s' | .ok _ => False | .error e => E e s') s) :
    wpC M A (call f pos kw) Q E s := wpC_runValue hc
theorem codeC_any {c : Code} {R : Result → Shared → Prop} (h : codeAny M A c R s) : codeC M A c R s := fun Γ p hc hΓ _ => h Γ p hc hΓ
theorem codeC_of_tree {c : Code} {R : Result → Shared → Prop}
    (h : wpC M (A.under c) (M.den c) (fun fin s' => match fin with | .done f => R (.ok f) s' | .again c' => c'.quiet = true ∧ codeC M A c' R s')
      (fun e s' => R (.error e) s') s) : codeC M A c R s := fun Γ p hc hΓ hcl => by
  rw [wpCode_iff_wp, hc]
  refine Sem.wp_mono M Γ _ (fun fin p' s' h' => ?_) (fun _ _ _ h' => h') p s (h Γ p (hc ▸ hΓ.in) hcl)
  cases fin with
  | done f => exact h'
  | again c' => exact ⟨h'.1, h'.2 (Γ.goto c') p' rfl (hΓ.goto c') (hcl.goto c')⟩
theorem codeC_mono {c : Code} {R R' : Result → Shared → Prop} (h : codeC M A c R s) (hR : ∀ r s, R r s → R' r s) : codeC M A c R' s :=
  fun Γ p hc hΓ hcl => wpCode_mono (fun r s' => hR r s') (h Γ p hc hΓ hcl)
end

section
variable {prog : Program} {w : World} {A : Around} {s : Shared} {R : Result → Shared → Prop}
theorem codeC_func {body : List Stmt} {env : Env}
    (h : wpC (model prog w) (A.deeper env) (execs body env) (fun f s' => R (.ok (.ret (match f with | .ret v => v | _ => .none))) s')
      (fun e s' => wpAny (model prog w) (A.deeper env) (leaving env e) (fun _ s'' => R (.error e) s'') (fun e' s'' => R (.error e') s'') s') s) :
    codeC (model prog w) A (.func body env) R s := by
  refine codeC_of_tree ?_
  show wpC _ (A.deeper env) (do point; match ← (execs body env).onRaise (leaving env) with | .ret v => ret v | _ => ret .none) _ _ s
  refine wpC_bindA (wpAny_point (wpC_bind (wpC_onRaise (wpC_mono h (fun f s' h' => ?_) fun _ _ h' => wpC_any h'))))
  cases f <;> exact wpC_pure h'
theorem codeC_call_function {a : Addr} {args : Args} {o : Obj} {fd : FuncData} {body : List Stmt} (hroom : A.depth < recursionLimit)
    (ho : s.heap.get? a = some o)
    (hd' : o.data = .func fd) (hco : fd.scope.isCoroutine = false) (hgen : fd.scope.isGenerator = false) (hbody : fd.body = .stmts body) (hcd : s.heap.CodeRec fd.code fd.qualname)
    (h : wpAny (model prog w) A.in1 (bindArgs fd args) (fun binds s₁ =>
      wpAny (model prog w) A.in1 (newFunctionEnv fd.scope fd.globals fd.closure binds (fd.qualname ++ ".<locals>.") (some a) fd.code none fd.builtins)
        (fun env s₂ => s₂.heap.NoLimit ∧ codeC (model prog w) A (.func body env) R s₂) (fun e s' => R (.error e) s') s₁) (fun e s' => R (.error e) s') s) :
    codeC (model prog w) A (.call (.ref a) args) R s := by
  refine codeC_of_tree (wpC_any ?_)
  show wpAny _ A.in1 (callAny (.ref a) args) _ _ s
  simp only [callAny]
  refine wpAny_bind (wpAny_load ho ?_)
  obtain ⟨c, oc, vs, tq, hc, hoc, hdc, hq⟩ := hcd
  simp only [hd', callFunction, hco, hgen, hbody, hc]
  rw [hc] at h
  refine wpAny_bind (m := field (.ref c) 1) (wpAny_field hoc hdc hq (wpAny_bind (wpAny_pure ?_)))
  exact wpAny_bind (wpAny_mono h (fun binds s₁ h₁ => wpAny_bind (wpAny_mono h₁ (fun env s₂ h₂ => wpAny_bind (wpAny_enterFrame h₂.1 hroom
    (wpAny_pure (And.intro rfl h₂.2)))) fun _ _ h' => h')) fun _ _ h' => h')
end

noncomputable abbrev ctx0 : Ctx := ⟨.builtin "claim.caller" {}, none, none, [], none⟩
noncomputable def wp0 {α : Type} (M : Model) (t : Sem α) (Q : α → Shared → Prop) (E : Value → Shared → Prop) (s : Shared) : Prop :=
  ∀ p, Sem.wp M ctx0 t (fun a _ s' => Q a s') (fun e _ s' => E e s') p s
theorem wp0_call {M : Model} {f : Value} {pos : List Value} {kw : List (Str × Value)} {Q : Value → Shared → Prop} {E : Value → Shared → Prop} {s : Shared}
    (hc : codeC M callerA (.call f ⟨pos, kw⟩) (fun r s' => match r with | .ok (.ret v) => Q v s' | .ok _ => False | .error e => E e s') s) : wp0 M (call f pos kw) Q E s := fun p => by
  show Sem.wp M ctx0 (runValue _) _ _ p s
  rw [Sem.wp_runValue]
  exact hc _ p rfl (caller_in.enter _ none p (by intro x; cases x)) (Clr.first rfl _ _ _)
theorem thread_ends0 {prog : Program} {w : World} {t : Sem Fin} {s : Shared} {R : Result → Shared → Prop} (hreg : s.asleep)
    (h : wp0 (model prog w) t (fun fin s' => ∃ f, fin = .done f ∧ (R (.ok f) s' ∧ leftWithCleanup s'.gens = false)) (fun e s' => R (.error e) s' ∧ leftWithCleanup s'.gens = false) s) :
    ∃ n r s' s'', runN (denote table) prog w n s ⟨t, .builtin "claim.caller" {}, default, []⟩ = .halted (outcomeOf r) s' ∧
      schedN (denote table) prog w n (.single s ⟨t, .builtin "claim.caller" {}, default, []⟩) = .halted (outcomeOf r) s' ∧ s'.forget = s''.forget ∧ R r s'' := by
  have hq : Sem.wp (model prog w) ctx0 t (Sem.finPost (model prog w) ctx0 fun r s' => R r s' ∧ leftWithCleanup s'.gens = false) (fun e _ s' => R (.error e) s' ∧ leftWithCleanup s'.gens = false) default s := by
    refine Sem.wp_mono _ ctx0 t (fun fin p' s' h' => ?_) (fun _ _ _ h' => h') default s (h default)
    obtain ⟨f, rfl, hf⟩ := h'
    exact hf
  obtain ⟨n, r, s₁, s₂, hs, hn, hfo, hR⟩ := wp_halts_full (M := model prog w) (R := R) hreg hq
  exact ⟨n, r, s₂, s₁, hn, hs, hfo, hR⟩
end Mine
end

section
set_option linter.all false
namespace Mine
set_option maxRecDepth 100000
section
variable {α β : Type} {M : Model} {E : Value → Shared → Prop} {s : Shared}
theorem wp0_mono {t : Sem α} {Q Q' : α → Shared → Prop} {E' : Value → Shared → Prop} (h : wp0 M t Q E s)
    (hQ : ∀ a s, Q a s → Q' a s) (hE : ∀ e s, E e s → E' e s) : wp0 M t Q' E' s :=
  fun p => Sem.wp_mono M ctx0 t (fun a _ s => hQ a s) (fun e _ s => hE e s) p s (h p)
theorem wp0_bind {m : Sem α} {f : α → Sem β} {Q : β → Shared → Prop} (h : wp0 M m (fun a s' => wp0 M (f a) Q E s') E s) :
    wp0 M (m >>= f) Q E s := fun p => by
  rw [Sem.wp_bind']
  exact Sem.wp_mono M ctx0 m (fun a p' s' h' => h' p') (fun _ _ _ h' => h') p s (h p)
theorem wp0_any {t : Sem α} {Q : α → Shared → Prop} (h : wpAny M callerA t Q E s) : wp0 M t Q E s := fun p => h ctx0 p caller_in
theorem wp0_pure {a : α} {Q : α → Shared → Prop} (h : Q a s) : wp0 M (pure a) Q E s := fun _ => h
end

theorem callFrom0 {c : ClaimW} {tree : List Value → Sem Fin} {w : World} {s : Shared} {free : Addr → Prop} {gens : Prop} {kept : Heap → Prop} (hz : s.asleep) (hgens : s.gens = #[])
    (hspec : ∀ args, c.pre args = true → WData.layableAll args = true →
      ∀ ord : List DictEntry → List DictEntry, (∀ l, (ord l).Perm l) →
      ∃ vs s₁, layAllW c.records (classAt s.heap) w.params ord args s = some (vs, s₁) ∧
        wp0 (model c.prog w) (tree vs) (fun fin s' => ∃ f, fin = .done f ∧ (c.Ends s args vs s₁ (.ok f) s' ∧ s'.os = s.os ∧ AllBare s'.gens ∧ kept s'.heap))
          (fun e s' => c.Ends s args vs s₁ (.error e) s' ∧ s'.os = s.os ∧ AllBare s'.gens ∧ kept s'.heap) s₁) :
    c.CallFrom (fun vs => ⟨tree vs, .builtin "claim.caller" {}, default, []⟩) w free gens kept s := by
  intro args hpre hlay ord hord
  obtain ⟨vs, s₁, hlaid, hcode⟩ := hspec args hpre hlay ord hord
  have hal := layAllW_rest _ _ _ hlaid
  obtain ⟨k, r, s', s'', hrun, hsched, hfo, hcase, hos, hkp⟩ := thread_ends0 (prog := c.prog) (w := w) (t := tree vs) (s := s₁)
    (R := fun r s' => c.Ends s args vs s₁ r s' ∧ s'.os = s.os ∧ kept s'.heap)
    (Shared.asleep_of_life hal.2.2.2 hz)
    (wp0_mono hcode (by
      rintro fin s' ⟨f, e, h1, h2, h3, h4⟩
      exact ⟨f, e, ⟨h1, h2, h4⟩, leftWithCleanup_false_of_bare h3⟩) (by
      rintro e s' ⟨h1, h2, h3, h4⟩
      exact ⟨⟨h1, h2, h4⟩, leftWithCleanup_false_of_bare h3⟩))
  obtain ⟨eh, _, _, eo, _⟩ := Shared.forget_eq hfo
  have hcase := hcase.congr eh
  have hkp : kept s'.heap := by first | exact eh ▸ hkp | (rw [eh] at hkp; exact hkp) | (rw [← eh] at hkp; exact hkp)
  rw [← eo] at hos
  have hlife : s'.heap.life = s.heap.life := (runN_life _ _ _ hrun).trans hal.2.2.2
  refine ⟨vs, s₁, hlaid, k, _, s', hsched, ?_, (fun _ i x hx => by rw [hgens] at hx; simp at hx), hkp, by rw [hlife], Shared.rest_eq hos⟩
  rcases hcase with ⟨v, rfl, d1, d2, d3, d4, d5⟩ | ⟨e, ob, cls, rfl, d1, d2, d3, d4, d5⟩
  · exact .inl ⟨v, rfl, d1, d2, d3, fun b o y _ => d4 b o y, d5⟩
  · exact .inr ⟨e, ob, cls, rfl, d1, d2, d3, d4, fun b o y _ => d5 b o y⟩

noncomputable abbrev WalkC (q : Program) (loose : List Str) (XP : (Str → Option Value) → Heap → Prop) (YP : World → Heap → Prop) (r : RowW) (d : DefRec) (kwd : List (Str × Expr)) : Prop :=
  ∀ (w : World) (s₀ s₁ : Shared) (mg mb : Str → Option Value), Ground q loose r.records XP w s₀ mg mb s₁.heap → YP w s₁.heap → ∀ (a : Addr) (o : Obj) (pm cd doc dV kV : Value), s₁.heap.get? a = some o →
    o.data = .func { docDef d.name d.params d.body d.scope pm cd doc with defaults := dV, kwdefaults := kV } → s₁.heap.CodeRec cd d.name → Dflts mg s₁.heap d.params kwd dV kV → mg d.name = some (.ref a) → s₁.gens = #[] →
    ∀ (args : List WData) (vals : List Value) (as : List Addr), r.claim.pre args = true → WData.layableAll args = true → ReadsAllW r.records (classAt s₀.heap) s₁.heap vals args as → WellAll w.params s₁.heap vals args → (∀ a ∈ as, (a == sysModules) = false) →
      codeC (model r.prog w) callerA (.call (.ref a) ⟨vals, []⟩) (fun res s' => match res with
        | .ok (.ret v) => GoodWG r.claim (classAt s₀.heap) (ExcName.means s₀.heap) args s₁ (.ok (.ret v)) s'
        | .ok _ => False
        | .error e => GoodWG r.claim (classAt s₀.heap) (ExcName.means s₀.heap) args s₁ (.error e) s') s₁

theorem holdsOpenC {r : OpenRow} {q : Program} {loose : List Str} {Xt : Shared → Bool} {XP : (Str → Option Value) → Heap → Prop} {α : Type} {Yf : Shared → α} {Ya : World → α} {YP : World → Heap → Prop} {d : DefRec} {kwd : List (Str × Expr)} {N : Nat}
    (left : LeftO r.prog q loose Xt Yf Ya N) (hY : ∀ w s, Yf s = Ya w → YP w s.heap) (hYk : ∀ w h h', YP w h → (∀ b o, h.get? b = some o → h'.get? b = some o) → YP w h')
    (hX : ∀ s, Xt s = true → XP (s.heap.nsMap mainGlobals) s.heap) (hXk : ∀ mg h h', XP mg h → (∀ b o, h.get? b = some o → h'.get? b = some o) → XP mg h')
    (hdef : defOf q r.name = some (d, kwd)) (hp : r.prog.theDef r.name = some (d.params, d.body, d.scope)) (hk : kwWritten? d.params.kwonlyargs d.params.kw_defaults = some kwd) (hRf : ∀ s, Xt s = true → RecFacts r.records s.heap) (hwr : (!r.writes || r.records.isEmpty) = true)
    (k1 : r.wellSaid = true) (ok : (chainsOk q && opensWell r.prog && (frees r.toRowW && r.within.isEmpty)) = true) (hb : r.prog.bare) (hw : r.toRowW.promised)
    (call : WalkC q loose XP YP r.toRowW d kwd) : r.Holds := by
  refine ⟨k1, hw, ?_⟩
  obtain ⟨ok, k5⟩ := Bool.and_eq_true_iff.mp ok
  obtain ⟨hch, o1⟩ := Bool.and_eq_true_iff.mp ok
  obtain ⟨k5, k6⟩ := Bool.and_eq_true_iff.mp k5
  obtain ⟨hsame, hu, ha, hap, hm⟩ := frees_parts k5
  refine ⟨⟨hb, o1, by show r.makers.map _ = []; rw [hm]; rfl⟩, hw.witness, fun w => ⟨(left.behind hX hch w).1, fun s' hs' => ?_⟩⟩
  obtain ⟨s₀, hf, hg0, s, hT, hz, hgens, hg, G00, y⟩ := (left.behind (XP := fun mg h => XP mg h ∧ RecFacts r.records h) (fun s hs => ⟨hX s hs, hRf s hs⟩) hch w).2 s' hs'
  have G0 : Ground q loose [] XP w s (s.heap.nsMap mainGlobals) (s.heap.nsMap builtinsNs) s.heap := ⟨G00.T, G00.B, G00.D, G00.TE, G00.TD, G00.W, G00.X.1, G00.cls, G00.has, G00.apart, G00.once, G00.K⟩
  have RF := G00.X.2
  have hT' := hT
  refine ⟨s₀, hf, hg0, s, hT, (fun n hn => ?_), RF.1, RF.2.1, ?_⟩
  · obtain rfl : n = r.name := by split at hn <;> simp_all
    exact pinned_of_view hg G0 hdef hp hk
  have hgens : s.gens = #[] := Array.eq_empty_of_size_eq_zero (beq_iff_eq.mp hgens)
  have G : Ground q loose r.records XP w s _ _ s.heap := RF.ground G0
  refine callFrom0 (c := r.toRowW.claim) (tree := fun vs => do match ← nsGet mainNs r.name with
      | some f => do ret (← PySem.call f vs)
      | none => unsupported "claim.caller:no-such-global") hz hgens fun args hpre hlay ord hord => ?_
  obtain ⟨⟨vs, s₁⟩, hlaid⟩ := Option.isSome_iff_exists.mp (layAllW_isSome (P := w.params) (ord := ord) G.has args r.args s (pre_splitW hpre).1)
  have keeps := layAllW_keeps _ _ _ hlaid
  have hal := layAllW_rest _ _ _ hlaid
  obtain ⟨as, hrd, hin, hold⟩ := reads_layAllW hord _ _ _ hlaid hlay s₁.heap (fun _ _ e => e)
  have L : Laid r.records w s s₁ args vs as := ⟨⟨ord, hord, hlaid⟩, hrd, hin, hold, keeps, hal.1.trans hgens, hal.2.2.1⟩
  have G₁ := G.keeps hXk keeps
  have hi := ident_freeW hu ha hap
  have hwi : r.toRowW.claim.within = [] := List.isEmpty_iff.mp k6
  obtain ⟨a, o, pm, cd, doc, dV, kV, h1, h2, h3, h4, h5⟩ := G₁.fn hdef
  have key := call w s s₁ _ _ G₁ (hYk _ _ _ (hY w s y) keeps) a o pm cd doc dV kV h2 h3 h4 h5 (defOf_name hdef ▸ h1) L.gens args vs as hpre hlay L.reads L.well (L.low G.low)
  refine ⟨vs, s₁, hlaid, ?_⟩
  refine wp0_bind (wp0_any (wpAny_nsGet G₁.T.g ?_))
  rw [h1]
  refine wp0_bind (wp0_call (codeC_mono key fun res s' g => ?_))
  have fin : ∀ res, GoodWG r.toRowW.claim (classAt s.heap) (ExcName.means s.heap) args s₁ res s' → (r.toRowW.claim.Ends s args vs s₁ res s' ∧ s'.os = s.os ∧ AllBare s'.gens) ∧ OldK s₁.heap s'.heap := fun res g => ⟨g.laid (c := r.toRowW.claim) hsame hwi hi L, g.2.1⟩
  have kp : OldK s₁.heap s'.heap → (r.writes = true → namesKept r.toRowW.claim.prog r.keeps s.heap s'.heap ∧ ∀ x ∈ r.toRowW.claim.records, ∀ a, classAt s.heap x.1 = some a → recordClass s'.heap a x.1 (x.2.map (·.1)) = true) :=
    fun old q => ⟨namesKept_of hT' hg r.keeps keeps old.old, noTable hwr q⟩
  cases res with
  | ok f =>
    cases f with
    | ret v => exact wp0_pure ⟨_, rfl, (fin _ g).1.1, (fin _ g).1.2.1, (fin _ g).1.2.2, kp (fin _ g).2⟩
    | _ => exact g.elim
  | error e => exact ⟨(fin _ g).1.1, (fin _ g).1.2.1, (fin _ g).1.2.2, kp (fin _ g).2⟩
end Mine
end

section
namespace Mine
set_option maxRecDepth 100000
set_option maxHeartbeats 0
noncomputable def VW : Program := view PySem.Challenge.pw_nq0040_01 [28]
noncomputable def LO : List Str := [Str.ofString "Error", Str.ofString "error_reply", Str.ofString "error_proto", Str.ofString "parse229", Str.ofString "cmp_to_key", Str.ofString "_initial_missing", Str.ofString "reduce", Str.ofString "_MAX_LENGTH", Str.ofString "safe_repr", Str.ofString "unorderable_list_difference", Str.ofString "three_way_cmp", Str.ofString "_law_thing", Str.ofString "_law_things", Str.ofString "_law_written", Str.ofString "_law_short", Str.ofString "_law_number", Str.ofString "_law_read", Str.ofString "_law_got", Str.ofString "_law_all_told", Str.ofString "_law_folded", Str.ofString "_law_walked", Str.ofString "_law_falling", Str.ofString "_law_laid", Str.ofString "_law_lost"]
theorem law_said : OpenLaw.wellSaid PySem.Challenge.rw_nq0040_01 = true := by
  unfold OpenLaw.wellSaid OpenRow.wellSaid OpenRow.partSaid looksOpen
  repeat' (with_reducible refine look_both ?_ ?_)
  all_goals decide +kernel
local macro_rules | `(tactic| k_head) => `(tactic| x_head)
local macro_rules | `(tactic| o_law) => `(tactic| refine holds_law law_said fun said => ?_)
noncomputable def open0 (H : Hook) := fun hl hs hw hc => holdsOpenC (r := OpenLaw.row PySem.Challenge.rw_nq0040_01) (q := VW) (loose := LO) (Xt := fun s => xlAt VW [] s && recOk (RowW.records (OpenRow.toRowW (OpenLaw.row PySem.Challenge.rw_nq0040_01))) s) (XP := XL VW []) (Yf := Hook.obs H) (Ya := Hook.val H) (YP := Hook.says H) (N := 2764) hl (Hook.of H) (Hook.keeps H) (fun s e => xl_of s (Bool.and_eq_true_iff.mp e).1) XL.keeps (by rfl) (by rfl) (by rfl) (fun s e => recFacts_of (Bool.and_eq_true_iff.mp e).2) (by rfl) hs (by decide +kernel) ⟨rfl, rfl, rfl, rfl, rfl, by decide +kernel⟩ hw hc
local macro_rules | `(tactic| o_head $H) => `(tactic| (refine open0 $H ?hl (by assumption) ?hw ?hc; (case hl => intro w; kernel_rfl)))
open_top hd for PySem.Challenge.rw_nq0040_01
end Mine
end

section
set_option linter.all false
namespace Mine
set_option maxRecDepth 100000
set_option maxHeartbeats 4000000

theorem not_python {own : List String} {codes : List Code} (h : codes.any Code.isCaller = true) : pythonCodeMadeTheCall own codes = false := by
  show ((!(codes.any Code.isCaller) && codes.any (·.env?.isSome)) && _) = false
  rw [h]
  rfl
theorem wpC_markTheRefusal {M : Model} {A : Around} {E : Value → Shared → Prop} {s : Shared} {own : List String} {e : Value} {Q : Unit → Shared → Prop} (h : Q () s) : wpC M A (markTheRefusal own e) Q E s := by
  intro Γ p hΓ hc
  unfold markTheRefusal
  rw [Sem.wp_bind']
  show Sem.wp M Γ (if pythonCodeMadeTheCall own (((Γ.code, p) :: Γ.below).map (·.1)) = true then _ else _) _ _ p s
  rw [if_neg]
  · exact h
  · rw [not_python]
    · decide
    · rw [List.map_cons, List.any_cons, List.any_map]
      have : (Γ.below.any (Code.isCaller ∘ fun x => x.1)) = true := hc
      rw [this, Bool.or_true]

theorem call_parts (v : Value) : ∃ k : Value → Sem Fin, Builtin.«type.__call__» ⟨[.type "int", v], []⟩ = (holding [.builtin "int.__new__"] (call (.builtin "int.__new__") [.type "int", v])) >>= k := by
  apply Exists.intro
  unfold Builtin.«type.__call__»
  have h1 := F.called_int.notType
  have h2 := F.called_int.canCreate
  have h3 := F.typeCall_int_1 v
  have h4 := F.mro_int
  have h5 := F.called_int.made
  simp only [h1, h2, h3, h4, h5, pure_bind, List.isEmpty_cons, Bool.false_eq_true, if_false]
  rfl

theorem special_none {x : Str} {t : Tok} {n : Str} (h : typeLookup (.type "str") n = pure none) : specialOf (.str x t) n = pure none := by
  show (typeOf (.str x t) >>= fun ty => typeLookup ty n) = _
  show typeLookup (.type "str") n = _
  exact h
theorem obj_parts (x : Str) (t : Tok) : (int_private% "intFromObject") (.str x t) = (int_private% "intFromText") (.str x t) (numTextOf x) 10 := by
  have h3 := special_none (x := x) (t := t) KIN.str_int
  have h4 := special_none (x := x) (t := t) KIN.str_idx
  have h5 := special_none (x := x) (t := t) KIN.str_trunc
  refine Eq.trans (show _ = (callSpecial? (.str x t) "__int__" >>= _) from rfl) ?_
  have h6 : callSpecial? (.str x t) "__int__" = pure none := by unfold callSpecial?; rw [h3]; rfl
  rw [h6]
  simp only [pure_bind]
  rw [h4]
  simp only [pure_bind, Option.isSome_none, Bool.false_eq_true, if_false]
  rw [h5]
  rfl
theorem new_parts (x : Str) (t : Tok) : ∃ k : Value → Sem Fin, Builtin.«int.__new__» ⟨[.type "int", .str x t], []⟩ = ((int_private% "intFromObject") (.str x t)) >>= k := by
  apply Exists.intro
  unfold Builtin.«int.__new__»
  have h1 := F.conv_sub_int
  have h2 := F.madeHere_int
  have h0 : isType (.type "int") = pure true := rfl
  dsimp only
  simp only [h0, h1, h2, pure_bind, Bool.not_true, Bool.false_eq_true, if_false]
  rfl

section
variable {prog : Program} {w : World} {A : Around} {E : Value → Shared → Prop} {s : Shared}
theorem text_no {x : Str} {t : Tok} {Q : Value → Shared → Prop} (hh : A.handled = none) (hn : PySem.intText? x = none) (hl : x.length ≤ 600) (hx : ∀ c ∈ x.cps.toList, c < 16 ^ 8)
    (err : ∀ h' e m tk tk', Heap.MadeExc s.heap h' e "ValueError" [.str m tk'] → E (.ref e) { s with heap := h', toks := tk }) :
    wpC (model prog w) A ((int_private% "intFromText") (.str x t) (numTextOf x) 10) Q E s := by
  have hs : (numSeenOf x).length ≤ 640 := by have := seen_length x; omega
  have hr := StrLaws.reprText_len x hx
  have last : ∀ s' : Shared, s'.heap = s.heap → s'.gens = s.gens → s'.drawn = s.drawn → s'.os = s.os → wpC (model prog w) A (do
      rule "int.__new__.invalid-literal"
      let shown ← pyRepr (.str x t)
      let refusal ← newExc (.type "ValueError") [← mkStr (((s!"invalid literal for int() with base {10}: " : String) ++ ⟨shown.cps.extract 0 200⟩ : Str))]
      markTheRefusal ["int.__new__"] refusal
      raiseNew refusal : Sem Value) Q E s' := by
    intro s' e1 e2 e3 e4
    obtain ⟨hp, g, d, tk, os⟩ := s'
    cases e1
    cases e2
    cases e3
    cases e4
    refine wpC_bindA (wpAny_rule (wpC_bindA (wpAny_pyRepr_str ?_ (by rw [sizeLine_eq]; omega))))
    refine wpC_bindA (wpAny_mkStr (wpC_bindA (wpAny_newExc_plain plainExc_ValueError fun h' e hx => ?_)) ?_)
    · exact wpC_bind (wpC_markTheRefusal (wpC_any (wpAny_raiseNew_none hh (err h' e _ _ _ hx))))
    · rw [Str.length_append, sizeLine_eq]
      have : (⟨(reprText x).cps.extract 0 200⟩ : Str).length ≤ 200 := by
        show ((reprText x).cps.extract 0 200).size ≤ 200
        rw [Array.size_extract]; omega
      have : (Str.ofString s!"invalid literal for int() with base {10}: ").length = 40 := by decide +kernel
      omega
  refine (show wpC (model prog w) A (if (numSeenOf x).length ≤ 640 then ((pure 0 : Sem Nat) >>= _) else _) Q E s from ?_)
  rw [if_pos hs, pure_bind]
  dsimp only
  rcases read0 x hs with ⟨n, h1, _⟩ | ⟨_, h | ⟨i, h, hne⟩⟩
  · rw [hn] at h1; cases h1
  · rw [h]
    exact last s rfl rfl rfl rfl
  · rw [h]
    refine (show wpC (model prog w) A (if ((numSeenOf x).length == (numTextOf x).length) = true then _ else _) Q E s from ?_)
    rw [if_neg hne]
    exact last s rfl rfl rfl rfl

theorem codeC_builtin {R : Result → Shared → Prop} {id : String} {args : Args} {b : Builtin} (hb : entryFor table id = some b)
    (h : wpC (model prog w) (A.under (.builtin id args)) (b args)
      (fun fin s' => match fin with | .done f => R (.ok f) s' | .again c' => c'.quiet = true ∧ codeC (model prog w) A c' R s') (fun e s' => R (.error e) s') s) :
    codeC (model prog w) A (.builtin id args) R s := by
  refine codeC_of_tree ?_
  show wpC _ _ (match entryFor table id with | some b => b args | none => unsupported ((withoutEnding? id "#data").getD id)) _ _ s
  rw [hb]; exact h
theorem int_no {x : Str} {t : Tok} {Q : Value → Shared → Prop} (hh : A.handled = none) (hn : PySem.intText? x = none) (hl : x.length ≤ 600) (hx : ∀ c ∈ x.cps.toList, c < 16 ^ 8)
    (err : ∀ h' e m tk tk', Heap.MadeExc s.heap h' e "ValueError" [.str m tk'] → E (.ref e) { s with heap := h', toks := tk }) :
    wpC (model prog w) A (call (.type "int") [.str x t]) Q E s := by
  refine wpC_call (codeC_of_tree ?_)
  show wpC _ _ (callAny (.type "int") _) _ _ _
  refine wpC_pure ⟨Code.quiet_builtin _ (by decide +kernel), codeC_builtin F.entry_type_call ?_⟩
  rw [Around.under_plain (weight_type_call_type "int" [.str x t] []) (units_type_call_type "int" [.str x t] [])]
  obtain ⟨k, hk⟩ := call_parts (.str x t)
  rw [hk]
  refine wpC_bind (wpC_holding (wpC_call (codeC_of_tree ?_)))
  show wpC _ _ (do checkBuiltinCall "int.__new__" _; again (.builtin "int.__new__" _)) _ _ s
  refine wpC_bindA (wpAny_of_eq (F.newCall_int_1 (.str x t)) (wpC_pure ⟨Code.quiet_builtin _ (by decide +kernel), codeC_builtin F.entry_int_new ?_⟩))
  obtain ⟨k', hk'⟩ := new_parts x t
  rw [hk', obj_parts]
  exact wpC_bind (text_no hh hn hl hx err)
end
end Mine
end

section
set_option linter.all false
namespace Mine
set_option maxRecDepth 100000
section
variable {M : Model} {A : Around} {E : Value → Shared → Prop} {s : Shared} {env : Env}
theorem wpC_execs_nil {Q : Flow → Shared → Prop} (h : Q .next s) : wpC M A (execs [] env) Q E s := wpC_pure h
theorem wpC_execs_cons {st : Stmt} {rest : List Stmt} {Q : Flow → Shared → Prop}
    (h : wpC M A (exec st env) (fun f s' => match f with | .next => wpC M A (execs rest env) Q E s' | f => Q f s') E s) : wpC M A (execs (st :: rest) env) Q E s := by
  show wpC M A (do match ← exec st env with | .next => execs rest env | f => pure f) Q E s
  refine wpC_bind (wpC_mono h (fun f s' h' => ?_) fun _ _ x => x)
  cases f <;> first | exact h' | exact wpC_pure h'
theorem wpC_execs_append {pre post : List Stmt} {Q : Flow → Shared → Prop}
    (h : wpAny M A (execs pre env) (fun f s' => match f with | .next => wpC M A (execs post env) Q E s' | f => Q f s') E s) : wpC M A (execs (pre ++ post) env) Q E s := by
  have key : execs (pre ++ post) env = (do match ← execs pre env with | .next => execs post env | f => pure f) := by
    clear h
    induction pre with
    | nil => rfl
    | cons st r ih =>
      show (do match ← exec st env with | .next => execs (r ++ post) env | f => pure f) = (do match ← (do match ← exec st env with | .next => execs r env | f => pure f) with | .next => execs post env | f => pure f)
      rw [ih, bind_assoc]
      congr 1
      funext f
      cases f <;> rfl
  rw [key]
  refine wpC_bindA (wpAny_mono h (fun f s' h' => ?_) fun _ _ x => x)
  cases f <;> first | exact h' | exact wpC_pure h'
theorem wpC_If {test : Expr} {body orelse : List Stmt} {pos : Pos} {Q : Flow → Shared → Prop}
    (h : wpC M A (isTrue test env (eval test env)) (fun b s₂ => if b then wpC M A (execs body env) Q E s₂ else wpC M A (execs orelse env) Q E s₂) E s) :
    wpC M A (exec (.If test body orelse pos) env) Q E s := by
  show wpC M A (do standAt pos; if ← isTrue test env (eval test env) then execs body env else execs orelse env) Q E s
  refine wpC_bindA (wpAny_standAt (wpC_bind (wpC_mono h (fun b s' h' => ?_) fun _ _ x => x)))
  cases b <;> exact h'
theorem wpC_Return {e : Expr} {pos : Pos} {Q : Flow → Shared → Prop} (h : wpC M A (eval e env) (fun v s' => Q (.ret v) s') E s) : wpC M A (exec (.Return (some e) pos) env) Q E s := by
  show wpC M A (do standAt pos; return .ret (← eval e env)) Q E s
  exact wpC_bindA (wpAny_standAt (wpC_bind (wpC_mono h (fun v s' h' => wpC_pure h') fun _ _ x => x)))
theorem wpC_Assign_Name {x : Str} {pos' : Pos} {value : Expr} {pos : Pos} {Q : Flow → Shared → Prop}
    (h : wpC M A (eval value env) (fun v s₁ => wpAny M A (storeName env x v) (fun _ => Q .next) E s₁) E s)
    (hs : swapsWith value (some (.Name x pos')) pos.line env = pure false := by rfl) :
    wpC M A (exec (.Assign [.Name x pos'] value pos) env) Q E s := fun Γ p hΓ hc => by
  simp only [exec_Assign_Name env x pos' value pos hs, Sem.wp_bind', Sem.wp_cmd_standAt, Sem.wp_bindName, Sem.wp_pure']
  exact Sem.wp_mono M Γ _ (fun v _ s₁ h₁ => h₁ Γ _ hΓ) (fun _ _ _ h' => h') _ _ (h Γ _ hΓ hc)
theorem wpC_Try {body orelse : List Stmt} {h₀ : ExceptHandler} {hs : List ExceptHandler} {pos : Pos} {Q : Flow → Shared → Prop}
    (h : wpC M A (execs body env) (fun f s₁ => match f with | .next => wpC M A (execs orelse env) Q E s₁ | f => Q f s₁)
      (fun e s₁ => wpAny M A (noteFrame e env) (fun _ s₂ => wpAny M A (setFlight e none) (fun _ s₃ => wpAny M A (handleBy e env (h₀ :: hs)) Q E s₃) E s₂) E s₁) s) :
    wpC M A (exec (.Try body (h₀ :: hs) orelse [] pos) env) Q E s := by
  rw [arm_exec_Try]
  refine wpC_bindA (wpAny_standAt ?_)
  unfold tryStmt
  simp only [List.isEmpty_nil, if_true, List.isEmpty_cons, Bool.false_and, Bool.false_eq_true, if_false]
  refine wpC_bind (wpC_attempt (wpC_mono h (fun f s₁ h₁ => ?_) fun e s₁ h₁ => ?_))
  · cases f <;> first | exact h₁ | exact wpC_pure h₁
  · exact wpC_any (wpAny_bind (wpAny_mono h₁ (fun _ _ h₂ => wpAny_bind h₂) fun _ _ x => x))
theorem wpC_Call_Name {id : Str} {p pos : Pos} {args : List Expr} {keywords : List Keyword} {Q : Value → Shared → Prop}
    (h : wpAny M A (eval (.Name id p) env) (fun f s₁ => wpC M A (callWith pos f [] (backTo pos (starEach args env)) (backToKw pos (keywordEach keywords env))) Q E s₁) E s) :
    wpC M A (eval (.Call (.Name id p) args keywords pos) env) Q E s := by
  rw [arm_eval_Call_Name']
  exact wpC_bindA h
noncomputable def Kept (M : Model) (A : Around) (E : Value → Shared → Prop) (f : Value) (s : Shared) : Prop := ∀ Q' : Keeper → Shared → Prop, (∀ k, (k = .frame ∨ k = .machine) → Q' k s) → wpAny M A (keeperOf f) Q' E s
theorem kept_type {T : String} : Kept M A E (.type T) s := fun Q' h => by unfold keeperOf; exact wpAny_pure (h _ (.inr rfl))
theorem kept_fn {a : Addr} {o : Obj} {fd : FuncData} (ho : s.heap.get? a = some o) (hd : o.data = .func fd) : Kept M A E (.ref a) s := fun Q' h => by
  unfold keeperOf
  refine wpAny_bind (wpAny_load ho ?_)
  rw [hd]
  exact wpAny_pure (h _ (.inl rfl))
theorem wpC_callWith {f : Value} {first : List Value} {pos : Pos} {args : List (Bool × Sem Value)} {Q : Value → Shared → Prop} (hplain : args.any (·.1) = false)
    (h : wpAny M A (evalArgs f true args []) (fun a s₁ => Kept M A E f s₁ ∧ wpC M A (call f (first ++ a.pos) a.kw) Q E s₁) E s) : wpC M A (callWith pos f first args []) Q E s := by
  unfold callWith
  refine wpC_bindA (wpAny_holding (wpAny_mono h (fun a s₁ h₁ => wpC_bindA (wpAny_standAt ?_)) fun _ _ x => x))
  have tail : ∀ {t : Sem Value}, wpC M A t Q E s₁ → wpC M A (t >>= fun r => holding [r] point >>= fun _ => pure r) Q E s₁ :=
    fun ht => wpC_bind (wpC_mono ht (fun r s₂ hr => wpC_bindA (wpAny_holding (wpAny_point (wpC_pure hr)))) fun _ _ x => x)
  obtain ⟨hk, hc⟩ := h₁
  simp only [hplain, List.any_nil, Bool.or_false]
  refine wpC_bindA (m := keeperOf f) (hk _ fun k hk => ?_)
  rcases hk with rfl | rfl
  · dsimp only
    split
    · exact tail hc
    · exact tail (by unfold callMarked; exact wpC_keep hc)
  · exact tail hc
theorem wpC_callWith1 {f : Value} {pos : Pos} {e : Expr} {rest : List Expr} {Q : Value → Shared → Prop}
    (h : wpAny M A (spliced (backTo pos (starEach (e :: rest) env))) (fun vs s₁ => Kept M A E f s₁ ∧ wpC M A (call f vs) Q E s₁) E s)
    (he : starEach (e :: rest) env = (false, eval e env) :: starEach rest env := by rfl) (hplain : (backTo pos (starEach rest env)).any (·.1) = false := by rfl) :
    wpC M A (callWith pos f [] (backTo pos (starEach (e :: rest) env)) (backToKw pos (keywordEach [] env))) Q E s := by
  rw [he] at h ⊢
  exact wpC_callWith (by show (false || (backTo pos (starEach rest env)).any (·.1)) = false; rw [hplain]; rfl) (evalArgs_plain h)
theorem wpC_isTrue_Call {fn : Expr} {args : List Expr} {kw : List Keyword} {pos : Pos} {Q : Bool → Shared → Prop}
    (h : wpC M A (eval (.Call fn args kw pos) env) (fun v s₁ => wpAny M A (truthy v) Q E s₁) E s) : wpC M A (isTrue (.Call fn args kw pos) env (eval (.Call fn args kw pos) env)) Q E s := by
  show wpC M A (do let v ← eval (.Call fn args kw pos) env; standAt pos; holding [v] (truthy v)) Q E s
  exact wpC_bind (wpC_mono h (fun v s₁ h₁ => wpC_any (wpAny_bind (wpAny_standAt (wpAny_holding h₁)))) fun _ _ x => x)
theorem wpC_isTrue_Not {x : Expr} {pos : Pos} {y : Sem Value} {Q : Bool → Shared → Prop}
    (h : wpC M A (isTrue x env (eval x env)) (fun b s₁ => Q (!b) s₁) E s) : wpC M A (isTrue (.UnaryOp .Not x pos) env y) Q E s := by
  show wpC M A (do return !(← isTrue x env (eval x env))) Q E s
  exact wpC_bind (wpC_mono h (fun v s₁ h₁ => wpC_pure h₁) fun _ _ x => x)
theorem wpC_isTrue_Compare {l r : Expr} {op : CmpOp} {pos : Pos} {y : Sem Value} {Q : Bool → Shared → Prop} (hm : ∀ t, markedBehindIn op r t = t)
    (h : wpC M A (eval l env) (fun a s₁ => wpAny M A (eval r env) (fun b s₂ => wpAny M A (operate [a, b] (compareOp op a b)) (fun c s₃ => wpAny M A (truthy c) Q E s₃) E s₂) E s₁) E s) :
    wpC M A (isTrue (.Compare l [op] [r] pos) env y) Q E s := by
  show wpC M A (do testChain pos (← eval l env) [op] [markedBehindIn op r (eval r env)]) Q E s
  refine wpC_bind (wpC_mono h (fun a s₁ h₁ => wpC_any ?_) fun _ _ x => x)
  rw [hm]
  show wpAny M A (do
    let rv ← holding [a] (eval r env)
    standAt pos
    let c ← operate [a, rv] (compareOp op a rv)
    holding [c] (truthy c)) Q E s₁
  exact wpAny_bind (wpAny_holding (wpAny_mono h₁ (fun b s₂ h₂ => wpAny_bind (wpAny_standAt (wpAny_bind (wpAny_mono h₂ (fun c s₃ h₃ => wpAny_holding h₃) fun _ _ x => x)))) fun _ _ x => x))
theorem wpC_isTrue_Or {x y : Expr} {pos : Pos} {z : Sem Value} {Q : Bool → Shared → Prop}
    (h : wpC M A (isTrue x env (eval x env)) (fun b s₁ => if b then Q true s₁ else wpC M A (isTrue y env (eval y env)) Q E s₁) E s) : wpC M A (isTrue (.BoolOp .Or [x, y] pos) env z) Q E s := by
  show wpC M A (do
    match BoolOp.Or, ← isTrue x env (eval x env) with
    | .And, false => pure false
    | .Or, true => pure true
    | _, _ => (do
      match BoolOp.Or, ← isTrue y env (eval y env) with
      | .And, false => pure false
      | .Or, true => pure true
      | _, _ => pure (BoolOp.Or == .And))) Q E s
  refine wpC_bind (wpC_mono h (fun b s₁ h₁ => ?_) fun _ _ x => x)
  cases b with
  | true => exact wpC_pure h₁
  | false =>
    refine wpC_bind (wpC_mono h₁ (fun b s₂ h₂ => ?_) fun _ _ x => x)
    cases b <;> exact wpC_pure h₂
end
end Mine
end

section
set_option linter.all false
namespace Mine
inductive Rd where
  | reply | proto | value
  | ok (n : Int)
noncomputable def parseIn (x : Str) (l r : Int) : Rd :=
  if Txt.item x (l + 1) != Txt.item x (r - 1) then .proto
  else if (Txt.split (Txt.slice x (some (l + 1)) (some r)) (Txt.item x (l + 1))).length ≠ 5 then .proto
  else match PySem.intText? ((Txt.split (Txt.slice x (some (l + 1)) (some r)) (Txt.item x (l + 1))).getD 3 Str.empty) with
    | none => .value
    | some n => .ok n
noncomputable def parseF (x : Str) : Rd :=
  if Txt.slice x none (some 3) != Str.ofString "229" then .reply
  else if Txt.find x (Str.ofString "(") < 0 then .proto
  else if Txt.find3 x (Str.ofString ")") (Txt.find x (Str.ofString "(") + 1) < 0 then .proto
  else parseIn x (Txt.find x (Str.ofString "(")) (Txt.find3 x (Str.ofString ")") (Txt.find x (Str.ofString "(") + 1))
section
variable {x : Str}
theorem pf_reply (h : (Txt.slice x none (some 3) != Str.ofString "229") = true) : parseF x = .reply := by unfold parseF; rw [if_pos h]
theorem pf_nope (h : (Txt.slice x none (some 3) != Str.ofString "229") = false) (h1 : Txt.find x (Str.ofString "(") < 0) : parseF x = .proto := by
  unfold parseF; rw [if_neg (by rw [h]; decide), if_pos h1]
theorem pf_nope2 (h : (Txt.slice x none (some 3) != Str.ofString "229") = false) (h1 : ¬ Txt.find x (Str.ofString "(") < 0)
    (h2 : Txt.find3 x (Str.ofString ")") (Txt.find x (Str.ofString "(") + 1) < 0) : parseF x = .proto := by
  unfold parseF; rw [if_neg (by rw [h]; decide), if_neg h1, if_pos h2]
theorem pf_in (h : (Txt.slice x none (some 3) != Str.ofString "229") = false) (h1 : ¬ Txt.find x (Str.ofString "(") < 0)
    (h2 : ¬ Txt.find3 x (Str.ofString ")") (Txt.find x (Str.ofString "(") + 1) < 0) : parseF x = parseIn x (Txt.find x (Str.ofString "(")) (Txt.find3 x (Str.ofString ")") (Txt.find x (Str.ofString "(") + 1)) := by
  unfold parseF; rw [if_neg (by rw [h]; decide), if_neg h1, if_neg h2]
theorem pi_ne {l r : Int} (h : (Txt.item x (l + 1) != Txt.item x (r - 1)) = true) : parseIn x l r = .proto := by unfold parseIn; rw [if_pos h]
theorem pi_len {l r : Int} {ps : List Str} (h : (Txt.item x (l + 1) != Txt.item x (r - 1)) = false) (hp : ps = Txt.split (Txt.slice x (some (l + 1)) (some r)) (Txt.item x (l + 1))) (hl : ps.length ≠ 5) : parseIn x l r = .proto := by
  unfold parseIn; rw [if_neg (by rw [h]; decide), ← hp, if_pos hl]
theorem pi_end {l r : Int} {ps : List Str} (h : (Txt.item x (l + 1) != Txt.item x (r - 1)) = false) (hp : ps = Txt.split (Txt.slice x (some (l + 1)) (some r)) (Txt.item x (l + 1))) (hl : ps.length = 5) :
    parseIn x l r = match PySem.intText? (ps.getD 3 Str.empty) with | none => .value | some n => .ok n := by
  unfold parseIn; rw [if_neg (by rw [h]; decide), ← hp, if_neg (by rw [hl]; decide)]
end
noncomputable def Asc (x : Str) : Prop := ∀ c ∈ x.cps.toList, 32 ≤ c ∧ c < 127

theorem str_open : Str.ofString "(" = ⟨#[40]⟩ := by decide +kernel
theorem str_close : Str.ofString ")" = ⟨#[41]⟩ := by decide +kernel
theorem find_open (x : Str) : -1 ≤ Txt.find x (Str.ofString "(") ∧ Txt.find x (Str.ofString "(") < x.length ∧ (Txt.find3 x (Str.ofString ")") (Txt.find x (Str.ofString "(") + 1) = -1 ∨ (Txt.find x (Str.ofString "(") + 1 ≤ Txt.find3 x (Str.ofString ")") (Txt.find x (Str.ofString "(") + 1) ∧ Txt.find3 x (Str.ofString ")") (Txt.find x (Str.ofString "(") + 1) < x.length)) ∨ Txt.find x (Str.ofString "(") = -1 := by
  rw [str_open, str_close]
  rcases StrLaws.find3_spec x 40 0 with ⟨h, _⟩ | ⟨k, h, _, hk, _⟩
  · right; rw [find_is_find3]; exact h
  · left
    rw [find_is_find3, h]
    refine ⟨by (first | lia | omega), by (first | lia | omega), ?_⟩
    rcases StrLaws.find3_spec x 41 ((k : Int) + 1) with ⟨h2, _⟩ | ⟨j, h2, hj, hk2, _⟩
    · exact .inl h2
    · right
      rw [h2]
      have : fromIndex x.length ((k : Int) + 1) = k + 1 := by
        unfold fromIndex; rw [if_neg (by (first | lia | omega))]; (first | lia | omega)
      (first | lia | omega)
theorem mem_join {sep : Str} : ∀ {ps : List Str} {p : Str}, p ∈ ps → ∀ c ∈ p.cps.toList, c ∈ (Str.join sep ps).cps.toList
  | [q], p, hp, c, hc => by cases List.mem_singleton.mp hp; exact hc
  | q :: r :: ps, p, hp, c, hc => by
    show c ∈ ((q.cps ++ sep.cps) ++ (Str.join sep (r :: ps)).cps).toList
    rw [Array.toList_append, Array.toList_append, List.mem_append, List.mem_append]
    rcases List.mem_cons.mp hp with rfl | hp
    · exact .inl (.inl hc)
    · exact .inr (mem_join hp c hc)
theorem mem_split {x y p : Str} (hp : p ∈ Txt.split x y) : ∀ c ∈ p.cps.toList, c ∈ x.cps.toList := fun c hc => by
  have := mem_join (sep := y) hp c hc
  rwa [StrLaws.join_split] at this

theorem slice_toList (x : Str) {a b : Nat} (hab : a ≤ b) (hb : b ≤ x.length) : (Txt.slice x (some (a : Int)) (some (b : Int))).cps.toList = (x.cps.toList.drop a).take (b - a) := by
  unfold Txt.slice
  have hl : x.cps.toList.length = x.length := Array.length_toList
  split
  · rename_i h
    rw [StrLaws.strSliceIndices_plain hab hb] at h
    simp only [BEq.rfl, List.length_map, List.length_range, Bool.true_and, beq_iff_eq] at h
    have h0 : a = 0 := by (first | lia | omega)
    subst h0
    rw [List.drop_zero, List.take_of_length_le (by (first | lia | omega))]
  · rw [StrLaws.sliced_plain x hab hb]
theorem slice_none_lo (x : Str) (b : Option Int) : Txt.slice x none b = Txt.slice x (some 0) b := by
  unfold Txt.slice
  rw [StrLaws.sliceIdx_none_lo]
theorem idx_over {len : Nat} {b : Nat} (h : len ≤ b) : Builtin.Str.strSliceIndices (some 0) (some (b : Int)) 1 len = Builtin.Str.strSliceIndices (some 0) (some (len : Int)) 1 len := by
  unfold Builtin.Str.strSliceIndices
  dsimp only
  rw [show (if (b : Int) < 0 then (b : Int) + (len : Int) else (b : Int)) = b from if_neg (by (first | lia | omega)), show (if (len : Int) < 0 then (len : Int) + (len : Int) else (len : Int)) = len from if_neg (by (first | lia | omega)), show min (b : Int) (len : Int) = min (len : Int) (len : Int) from by (first | lia | omega)]
  rfl
theorem slice_to (x : Str) (b : Nat) : (Txt.slice x none (some (b : Int))).cps.toList = x.cps.toList.take b := by
  have hl : x.cps.toList.length = x.length := Array.length_toList
  rw [slice_none_lo]
  by_cases h : b ≤ x.length
  · have := slice_toList x (Nat.zero_le b) h
    simpa using this
  · have e : Txt.slice x (some 0) (some (b : Int)) = Txt.slice x (some 0) (some (x.length : Int)) := by
      unfold Txt.slice
      rw [idx_over (by (first | lia | omega))]
    rw [e]
    have := slice_toList x (Nat.zero_le x.length) (Nat.le_refl _)
    rw [show ((0 : Nat) : Int) = 0 from rfl] at this
    rw [this, List.drop_zero, List.take_of_length_le (by (first | lia | omega)), List.take_of_length_le (by (first | lia | omega))]

theorem slice_mem {x : Str} {l u : Option Int} : ∀ c ∈ (Txt.slice x l u).cps.toList, c ∈ x.cps.toList := by
  intro c hc
  unfold Txt.slice at hc
  split at hc
  · exact hc
  · obtain ⟨i, _, hi⟩ := List.mem_filterMap.mp hc
    obtain ⟨h, e⟩ := Array.getElem?_eq_some_iff.mp hi
    rw [← e]
    exact Array.mem_toList_iff.mpr (Array.getElem_mem h)
theorem Asc.slice {x : Str} (h : Asc x) (l u : Option Int) : Asc (Txt.slice x l u) := fun c hc => h c (slice_mem c hc)
theorem Asc.split {x y p : Str} (h : Asc x) (hp : p ∈ Txt.split x y) : Asc p := fun c hc => h c (mem_split hp c hc)
theorem Asc.small {x : Str} (h : Asc x) : ∀ c ∈ x.cps.toList, c < 16 ^ 8 := fun c hc => by have := (h c hc).2; (first | lia | omega)
end Mine
end

section
set_option linter.all false
namespace Mine
set_option maxRecDepth 100000
set_option maxHeartbeats 8000000

noncomputable def EMP : Program := { main := { body := [], scope := { kind := .module, names := [], isGenerator := false, isCoroutine := false, more := [] }, futureAnnotations := false, file := Str.ofString "", more := [] }, modules := [], parses := [], absent := [] }
noncomputable def LS : List Str := [Str.ofString "Error", Str.ofString "error_reply", Str.ofString "error_proto", Str.ofString "parse229", Str.ofString "cmp_to_key", Str.ofString "_initial_missing", Str.ofString "reduce", Str.ofString "_MAX_LENGTH", Str.ofString "safe_repr", Str.ofString "unorderable_list_difference", Str.ofString "three_way_cmp", Str.ofString "_law_thing", Str.ofString "_law_things", Str.ofString "_law_written", Str.ofString "_law_short", Str.ofString "_law_number", Str.ofString "_law_read", Str.ofString "_law_got", Str.ofString "_law_all_told", Str.ofString "_law_folded", Str.ofString "_law_walked", Str.ofString "_law_falling", Str.ofString "_law_laid", Str.ofString "_law_lost", Str.ofString "law"]
noncomputable abbrev PROG := PySem.Challenge.pw_nq0040_01

inductive Less (g : Nat → Bool) : Frag → Frag → Prop
  | nil : Less g [] []
  | cons {p : Addr × Obj} {l l' : Frag} : g p.1 = false → Less g l l' → Less g (p :: l) (p :: l')
  | drop {p : Addr × Obj} {l l' : Frag} : g p.1 = true → Less g l l' → Less g (p :: l) l'
theorem Less.lookup {g : Nat → Bool} {l l' : Frag} (h : Less g l l') : ∀ {a : Addr} {o : Obj}, l'.lookup a = some o → l.lookup a = some o ∧ g a = false := by
  induction h with
  | nil => intro a o e; cases e
  | @cons p l l' hp _ ih =>
    intro a o e
    obtain ⟨b, x⟩ := p
    simp only [List.lookup] at e ⊢
    split at e
    · rename_i q
      rw [beq_iff_eq.mp q] at *
      exact ⟨e, hp⟩
    · exact ih e
  | @drop p l l' hp _ ih =>
    intro a o e
    obtain ⟨b, x⟩ := p
    have hne : (a == b) = false := by
      cases q : a == b with
      | false => rfl
      | true =>
        have := (ih e).2
        rw [beq_iff_eq.mp q] at this
        rw [this] at hp
        cases hp
    simp only [List.lookup, hne]
    exact ih e
noncomputable def offC (a : Nat) : Bool := Nat.beq a 60 || Nat.beq a 152
theorem Less.step {g : Nat → Bool} {p : Addr × Obj} {l l' m : Frag} (e : m = p :: l') (h : g p.1 = false) (r : Less g l l') : Less g (p :: l) m := by subst e; exact .cons h r
local macro_rules | `(tactic| ktr_unf) => `(tactic| first | exact Less.nil | (refine' Less.step ?a ?b ?c; (case b => exact rfl); (case a => exact rfl); (case c => ktr_unf)) | (refine' Less.drop ?b ?c; (case b => exact rfl); (case c => ktr_unf)))
noncomputable def KC : Params → Frag := by
  intro P
  refine' (fun (l : Frag) (_ : Less offC (Mine.hd.heap_1 P) l) => l) _ ?h
  case h =>
    delta Mine.hd.heap_1
    ktr_unf
theorem KC_less (P : Params) : Less offC (Mine.hd.heap_1 P) (KC P) := by
  delta Mine.hd.heap_1 KC
  ktr_unf
noncomputable def Kp (h h' : Heap) : Prop := ∀ b o, h.get? b = some o → h'.get? b = some o
theorem Kp.refl (h : Heap) : Kp h h := fun _ _ e => e
theorem Kp.trans {a b c : Heap} (x : Kp a b) (y : Kp b c) : Kp a c := fun _ _ e => y _ _ (x _ _ e)

section
variable {prog : Program} {w : World} {A : Around} {E : Value → Shared → Prop} {s : Shared} {K : Frag} {base : Heap} {mg mb : Str → Option Value} {p : Program} {loose : List Str} {mean : ExcName → Option Value} {Q : Value → Shared → Prop} {outer : List Env}

theorem enterP {name qual : Str} {params : Arguments} {body : List Stmt} {scope : Scope} {dV kV doc pm cdv ct oc : Value} {an od : Option Addr} {osl : Array (Option Value)} {f : Addr} {args : List Value} {binds : List (Str × Value)}
    (B : Below A base outer s.heap) (X₀ : K.In s.heap) (T : Top p loose mean mg mb s.heap)
    (ho : K.lookup f = some ⟨oc, od, .func (fnOf name qual params body scope dV kV doc pm an cdv ct), osl⟩) (hcd : codeIn K cdv qual = true) (hroom : A.depth < recursionLimit)
    (hbind : BindsTo s (fnOf name qual params body scope dV kV doc pm an cdv ct) ⟨args, []⟩ binds) (hloc : ∀ y ∈ binds, scope.names.lookup y.1 = some .local)
    (h : ∀ L' h₁, Fr s.heap L' h₁ (fun y => binds.reverse.lookup y) → News s.heap L' h₁ [] →
      wpAny (model prog w) (A.deeper (envOf qual scope L' f cdv)) (execs body (envOf qual scope L' f cdv))
        (fun fl s' => Q (match fl with | .ret v => v | _ => .none) s')
        (fun e s' => wpAny (model prog w) (A.deeper (envOf qual scope L' f cdv)) (leaving (envOf qual scope L' f cdv) e) (fun _ s'' => E e s'') (fun e' s'' => E e' s'') s')
        { s with heap := h₁, toks := s.toks + binds.length })
    (hco : scope.isCoroutine = false) (hgen : scope.isGenerator = false) (hk : scope.kind = .function)
    (hcell : ∀ x ∈ scope.names, x.2 ≠ .cell) : wpAny (model prog w) A (call (.ref f) args) Q E s := by
  refine wpAny_call (codeAny_call_def (fd := fnOf name qual params body scope dV kV doc pm an cdv ct) (body := body) (binds := binds) hroom (X₀ _ _ ho) rfl T.nolimit (codeRec_of X₀ hcd) rfl hbind hcell hloc (fun h₁ hns hk₁ => ?_) hco hgen hk)
  exact h s.heap.objs.size h₁ ⟨hns, hk₁, Nat.le_refl _⟩ News.nil
end

section
variable {prog : Program} {w : World} {A : Around} {E : Value → Shared → Prop} {s : Shared} {K : Frag} {base : Heap} {mg mb : Str → Option Value} {p : Program} {loose : List Str} {mean : ExcName → Option Value} {Q : Value → Shared → Prop} {outer : List Env}

theorem enterC {name qual : Str} {params : Arguments} {body : List Stmt} {scope : Scope} {dV kV doc pm cdv ct oc : Value} {an od : Option Addr} {osl : Array (Option Value)} {f : Addr} {args : List Value} {binds : List (Str × Value)}
    (B : Below A base outer s.heap) (X₀ : K.In s.heap) (T : Top p loose mean mg mb s.heap)
    (ho : K.lookup f = some ⟨oc, od, .func (fnOf name qual params body scope dV kV doc pm an cdv ct), osl⟩) (hcd : codeIn K cdv qual = true) (hroom : A.depth < recursionLimit)
    (hbind : BindsTo s (fnOf name qual params body scope dV kV doc pm an cdv ct) ⟨args, []⟩ binds) (hloc : ∀ y ∈ binds, scope.names.lookup y.1 = some .local)
    (h : ∀ L' h₁, Fr s.heap L' h₁ (fun y => binds.reverse.lookup y) → News s.heap L' h₁ [] →
      wpC (model prog w) (A.deeper (envOf qual scope L' f cdv)) (execs body (envOf qual scope L' f cdv))
        (fun fl s' => Q (match fl with | .ret v => v | _ => .none) s')
        (fun e s' => wpAny (model prog w) (A.deeper (envOf qual scope L' f cdv)) (leaving (envOf qual scope L' f cdv) e) (fun _ s'' => E e s'') (fun e' s'' => E e' s'') s')
        { s with heap := h₁, toks := s.toks + binds.length })
    (hco : scope.isCoroutine = false) (hgen : scope.isGenerator = false) (hk : scope.kind = .function)
    (hcell : ∀ x ∈ scope.names, x.2 ≠ .cell) : wpC (model prog w) A (call (.ref f) args) Q E s := by
  refine wpC_call (codeC_call_function hroom (X₀ _ _ ho) rfl hco hgen rfl (codeRec_of X₀ hcd) (hbind _ _ _ _ ?_))
  refine wpAny_newFunctionEnv hcell hloc (fun h₀ hns₀ hsb₀ => ⟨T.nolimit.fresh _ hsb₀, codeC_func (h _ h₀ ⟨hns₀, fun b o e => ?_, Nat.le_refl _⟩ News.nil)⟩) hk
  exact hsb₀.extBut b o (Nat.ne_of_lt (Heap.lt_size e)) (Heap.get?_push_of_some _ e)
theorem wpC_execs_at {M : Model} {env : Env} {l : List Stmt} {Q : Flow → Shared → Prop} (n : Nat)
    (h : wpAny M A (execs (l.take n) env) (fun f s' => match f with | .next => wpC M A (execs (l.drop n) env) Q E s' | f => Q f s') E s) : wpC M A (execs l env) Q E s := by
  have := wpC_execs_append h
  rwa [List.take_append_drop] at this
theorem RaisedS.drop {base G : Heap} {l : List Env} {e : Addr} {cls : Value} {t : Addr} {vs : List Value} {news : List (Addr × Obj)} {h : Heap} (R : RaisedS base G l e cls t vs news h) : RaisedS base G l e cls t vs [] h := by
  obtain ⟨⟨B, h1, h2, _, h4, h5⟩, h6⟩ := R
  exact ⟨⟨B, h1, h2, (fun _ hq => nomatch hq), h4, h5⟩, h6⟩
end

end Mine
end

section
namespace Mine
noncomputable def itc : Value → Bool
  | .type n => n == "list_iterator" || n == "str_ascii_iterator" || n == "str_iterator" || n == "range_iterator" || n == "tuple_iterator"
  | _ => false
noncomputable def NoIt (news : List (Addr × Obj)) : Prop := ∀ p ∈ news, itc p.2.cls = false
theorem NoIt.nil : NoIt [] := fun _ h => nomatch h
theorem NoIt.cons {a : Addr} {o : Obj} {news : List (Addr × Obj)} (h : itc o.cls = false) (r : NoIt news) : NoIt ((a, o) :: news) := fun p hp => by
  rcases List.mem_cons.mp hp with rfl | hp
  · exact h
  · exact r p hp
theorem NoIt.append {a b : List (Addr × Obj)} (h : NoIt a) (r : NoIt b) : NoIt (a ++ b) := fun p hp => by
  rcases List.mem_append.mp hp with hp | hp
  · exact h p hp
  · exact r p hp
noncomputable def NoItB (old news : List (Addr × Obj)) : Prop := ∀ p ∈ news, itc p.2.cls = false ∨ p ∈ old
theorem NoItB.refl {old : List (Addr × Obj)} : NoItB old old := fun _ h => .inr h
theorem NoItB.of {old news : List (Addr × Obj)} (h : NoIt news) : NoItB old news := fun p hp => .inl (h p hp)
noncomputable def TurnGo (h₀ : Heap) (L : Addr) (J : (Str → Option Value) → List (Addr × Obj) → Prop) (own : List (Addr × Obj)) (s s₂ : Shared) : Prop :=
  ∃ h' tk m' news', s₂ = { s with heap := h', toks := tk } ∧ Fr h₀ L h' m' ∧ News h₀ L h' (news' ++ own) ∧ J m' news'
noncomputable def TurnEnd (h₀ : Heap) (L : Addr) (J : (Str → Option Value) → List (Addr × Obj) → Prop) (own : List (Addr × Obj)) (s : Shared) (Q : Flow → Shared → Prop) (f : Flow) (s₂ : Shared) : Prop :=
  match f with
  | .ret v => Q (.ret v) s₂
  | .brk => Q .next s₂
  | _ => TurnGo h₀ L J own s s₂
theorem TurnEnd.go {h₀ : Heap} {L : Addr} {J : (Str → Option Value) → List (Addr × Obj) → Prop} {own : List (Addr × Obj)} {s : Shared} {Q : Flow → Shared → Prop} {h' : Heap} {tk : Nat} {m' : Str → Option Value} {all : List (Addr × Obj)}
    (news' : List (Addr × Obj)) (F : Fr h₀ L h' m') (N : News h₀ L h' all) (sub : ∀ p ∈ news' ++ own, p ∈ all) (j : J m' news') : TurnEnd h₀ L J own s Q .next { s with heap := h', toks := tk } :=
  ⟨h', tk, m', news', rfl, F, fun p hp => N p (sub p hp), j⟩
section
variable {prog : Program} {w : World} {A : Around} {E : Value → Shared → Prop} {s : Shared} {env : Env} {h₀ : Heap} {x : Str} {body : List Stmt} {Q : Flow → Shared → Prop}
theorem loop_gen {I : Addr} {fp : List Addr} {n : Nat} {P : Nat → Value → Prop} {St : Nat → Heap → Prop} {m₀ : Str → Option Value} {news : List (Addr × Obj)} (J : Nat → (Str → Option Value) → List (Addr × Obj) → Prop)
    (hpre : ∀ p ∈ news, p.1 ≠ I) (W : Walks prog w A I fp [I] n P St) (hit : ∀ i h, St i h → ∃ o, h.get? I = some o ∧ itc o.cls = true) (hLf : env.locals ∉ fp) (hI : h₀.get? I = none) (hst : St 0 s.heap)
    (F : Fr h₀ env.locals s.heap m₀) (N : News h₀ env.locals s.heap news) (hj : J 0 m₀ news) (hJ : ∀ i m nw, J i m nw → NoItB news nw)
    (turn : ∀ i v m₁ news₁ h tk own, i < n → P i v → J i m₁ news₁ → Fr h₀ env.locals h (fun y => if y = x then some v else m₁ y) → News h₀ env.locals h (news₁ ++ own) → (∀ b o, b ∈ fp → h₀.get? b = none → h.get? b = some o → (b, o) ∈ own) → (∀ q ∈ own, q.1 ∈ fp) →
      wpAny (model prog w) A (execs body env) (TurnEnd h₀ env.locals (J (i + 1)) own { s with heap := h, toks := tk } Q) E { s with heap := h, toks := tk })
    (done : ∀ m₁ news₁ h tk, J n m₁ news₁ → Fr h₀ env.locals h m₁ → News h₀ env.locals h news₁ → Q .next { s with heap := h, toks := tk }) :
    LoopAtV prog w A h₀ env x body Q E (.ref I) s := by
  refine ⟨I, fp, [I], n, P, St, m₀, news, J, rfl, W, hLf, (fun b hb => by rw [List.mem_singleton.mp hb]; exact hI), (fun p hp hm => hpre p hp (List.mem_singleton.mp hm)), hst, F, N, hj, ?_, ?_⟩
  · rintro i v m₁ news₁ s₁ own ⟨hh', tk', rfl⟩ hin hP hJi hoff hofp hown hmem hst' F₁ N₁
    refine wpAny_mono (turn i v m₁ news₁ hh' tk' own hin hP hJi F₁ (fun p hp => N₁ p ((List.mem_append.mp hp).elim (fun h => List.mem_append.mpr (.inr h)) fun h => List.mem_append.mpr (.inl h))) (fun b o hb hn e => hmem b hb hn o e) (fun q hq => hofp q hq)) (fun f s₂ p => ?_) fun _ _ e => e
    have fin : TurnGo h₀ env.locals (J (i + 1)) own { s with heap := hh', toks := tk' } s₂ → LoopStepU h₀ env.locals [I] own (J (i + 1)) { s with heap := hh', toks := tk' } .next s₂ := by
      rintro ⟨h', tk, m', news', e, F', N', hm⟩
      have NO : News h₀ env.locals h' (own ++ news') := fun p hp => N' p ((List.mem_append.mp hp).elim (fun h => List.mem_append.mpr (.inr h)) fun h => List.mem_append.mpr (.inl h))
      refine ⟨rfl, h', tk, m', news', e, F', NO, ?_, hm⟩
      have hIf : I ∈ fp := W.sub I (List.mem_singleton.mpr rfl)
      obtain ⟨o, ho, hc⟩ := hit _ _ hst'
      intro p hp hm'
      have e1 := (N' p (List.mem_append_left _ hp)).1
      have e2 := (N' (I, o) (List.mem_append_right _ (hmem I hIf hI o ho))).1
      rw [List.mem_singleton.mp hm'] at e1
      rw [e1] at e2
      rcases hJ _ _ _ hm p hp with this | hin
      · rw [Option.some.inj e2, hc] at this
        cases this
      · exact hpre p hin (List.mem_singleton.mp hm')
    cases f with
    | ret v => exact .ret p
    | brk => exact .brk p
    | next => exact .next (fin p)
    | cont => exact .cont (fin p)
  · exact fun h' tk m' news' F' N' _ hJ => done m' news' h' tk hJ F' N'
theorem iterL {l : Addr} {vs : List Value} {m₀ : Str → Option Value} {news : List (Addr × Obj)} (J : Nat → (Str → Option Value) → List (Addr × Obj) → Prop)
    (hh : A.handled = none) (hl : s.heap.IsList l vs.toArray) (hL : l ≠ env.locals)
    (F : Fr h₀ env.locals s.heap m₀) (N : News h₀ env.locals s.heap news) (hj : J 0 m₀ news) (hJ : ∀ i m nw, J i m nw → NoItB news nw)
    (turn : ∀ i v m₁ news₁ h tk own, vs[i]? = some v → J i m₁ news₁ → Fr h₀ env.locals h (fun y => if y = x then some v else m₁ y) → News h₀ env.locals h (news₁ ++ own) → (∀ q ∈ own, q.1 = s.heap.objs.size ∨ q.1 = l) →
      wpAny (model prog w) A (execs body env) (TurnEnd h₀ env.locals (J (i + 1)) own { s with heap := h, toks := tk } Q) E { s with heap := h, toks := tk })
    (done : ∀ m₁ news₁ h tk, J vs.length m₁ news₁ → Fr h₀ env.locals h m₁ → News h₀ env.locals h news₁ → Q .next { s with heap := h, toks := tk }) :
    wpAny (model prog w) A (pyIter (.ref l)) (fun it s₂ => LoopAtV prog w A h₀ env x body Q E it s₂) E s := by
  obtain ⟨ol, hol, _⟩ := id hl
  have hlt : l < s.heap.objs.size := Heap.lt_size hol
  refine wpAny_pyIter_list hl ?_
  have W := Walks.list (prog := prog) (w := w) hh s.heap.objs.size l (Nat.ne_of_lt hlt) vs.toArray
  refine loop_gen J (fun p hp => Nat.ne_of_lt (Heap.lt_size (N p hp).1)) W (fun i h st => by obtain ⟨o, e, hc, _⟩ := st.1; exact ⟨o, e, by rw [hc]; rfl⟩) ?_ (next_is_new F) ⟨⟨_, Heap.get?_push_size _ rfl, rfl, rfl⟩, hl.at fun o e => Heap.get?_push_of_some _ e⟩
    (F.push _) (fun p hp => ⟨Heap.get?_push_of_some _ (N p hp).1, (N p hp).2⟩) hj hJ ?_ ?_
  · intro hm
    rcases List.mem_cons.mp hm with e | hm
    · exact absurd F.ns.lt (e ▸ Nat.lt_irrefl _)
    · exact hL (List.mem_singleton.mp hm).symm
  · intro i v m₁ news₁ h tk own hi hP hJi F₁ N₁ hown ho
    refine turn i v m₁ news₁ h tk own (by simpa using hP) hJi F₁ N₁ (fun q hq => ?_)
    rcases List.mem_cons.mp (ho q hq) with e | hm
    · exact .inl e
    · exact .inr (List.mem_singleton.mp hm)
  · intro m₁ news₁ h tk hJn
    rw [List.size_toArray] at hJn
    exact done m₁ news₁ h tk hJn
theorem iterS {y : Str} {t : Tok} {m₀ : Str → Option Value} {news : List (Addr × Obj)} (J : Nat → (Str → Option Value) → List (Addr × Obj) → Prop)
    (hh : A.handled = none) (hy : y.cps.all (· < 128) = true)
    (F : Fr h₀ env.locals s.heap m₀) (N : News h₀ env.locals s.heap news) (hj : J 0 m₀ news) (hJ : ∀ i m nw, J i m nw → NoItB news nw)
    (turn : ∀ i c u m₁ news₁ h tk own, y.cps[i]? = some c → J i m₁ news₁ → Fr h₀ env.locals h (fun z => if z = x then some (.str ⟨#[c]⟩ u) else m₁ z) → News h₀ env.locals h (news₁ ++ own) → (∀ q ∈ own, q.1 = s.heap.objs.size) →
      wpAny (model prog w) A (execs body env) (TurnEnd h₀ env.locals (J (i + 1)) own { s with heap := h, toks := tk } Q) E { s with heap := h, toks := tk })
    (done : ∀ m₁ news₁ h tk, J y.cps.size m₁ news₁ → Fr h₀ env.locals h m₁ → News h₀ env.locals h news₁ → Q .next { s with heap := h, toks := tk }) :
    wpAny (model prog w) A (pyIter (.str y t)) (fun it s₂ => LoopAtV prog w A h₀ env x body Q E it s₂) E s := by
  refine wpAny_pyIter_ascii hy ?_
  have W := Walks.strAscii (prog := prog) (w := w) hh s.heap.objs.size y t
  refine loop_gen J (fun p hp => Nat.ne_of_lt (Heap.lt_size (N p hp).1)) W (fun i h st => by obtain ⟨o, e, hc, _⟩ := st; exact ⟨o, e, by rw [hc]; rfl⟩) ?_ (next_is_new F) ⟨_, Heap.get?_push_size _ rfl, rfl, rfl⟩
    (F.push _) (fun p hp => ⟨Heap.get?_push_of_some _ (N p hp).1, (N p hp).2⟩) hj hJ ?_ ?_
  · intro hm
    exact absurd F.ns.lt ((List.mem_singleton.mp hm) ▸ Nat.lt_irrefl _)
  · rintro i v m₁ news₁ h tk own hi ⟨c, u, hc, rfl⟩ hJi F₁ N₁ hown ho
    exact turn i c u m₁ news₁ h tk own hc hJi F₁ N₁ (fun q hq => List.mem_singleton.mp (ho q hq))
  · exact done
end
section
variable {prog : Program} {w : World} {A : Around} {E : Value → Shared → Prop} {s : Shared} {env : Env} {L : Addr} {h₀ : Heap} {x : Str} {body : List Stmt} {Q : Flow → Shared → Prop}
theorem forL (he : env.locals = L) {l : Addr} {vs : List Value} {m₀ : Str → Option Value} {news : List (Addr × Obj)} (J : Nat → (Str → Option Value) → List (Addr × Obj) → Prop)
    (hh : A.handled = none) (hl : s.heap.IsList l vs.toArray) (hL : l ≠ L)
    (F : Fr h₀ L s.heap m₀) (N : News h₀ L s.heap news) (hj : J 0 m₀ news) (hJ : ∀ i m nw, J i m nw → NoItB news nw)
    (turn : ∀ i v m₁ news₁ h tk own, vs[i]? = some v → J i m₁ news₁ → Fr h₀ L h (fun y => if y = x then some v else m₁ y) → News h₀ L h (news₁ ++ own) → (∀ q ∈ own, q.1 = s.heap.objs.size ∨ q.1 = l) →
      wpAny (model prog w) A (execs body env) (TurnEnd h₀ L (J (i + 1)) own { s with heap := h, toks := tk } Q) E { s with heap := h, toks := tk })
    (done : ∀ m₁ news₁ h tk, J vs.length m₁ news₁ → Fr h₀ L h m₁ → News h₀ L h news₁ → Q .next { s with heap := h, toks := tk }) :
    wpAny (model prog w) A (pyIter (.ref l)) (fun it s₂ => LoopAtV prog w A h₀ env x body Q E it s₂) E s := by
  subst he; exact iterL J hh hl hL F N hj hJ turn done
theorem forS (he : env.locals = L) {y : Str} {t : Tok} {m₀ : Str → Option Value} {news : List (Addr × Obj)} (J : Nat → (Str → Option Value) → List (Addr × Obj) → Prop)
    (hh : A.handled = none) (hy : y.cps.all (· < 128) = true)
    (F : Fr h₀ L s.heap m₀) (N : News h₀ L s.heap news) (hj : J 0 m₀ news) (hJ : ∀ i m nw, J i m nw → NoItB news nw)
    (turn : ∀ i c u m₁ news₁ h tk own, y.cps[i]? = some c → J i m₁ news₁ → Fr h₀ L h (fun z => if z = x then some (.str ⟨#[c]⟩ u) else m₁ z) → News h₀ L h (news₁ ++ own) → (∀ q ∈ own, q.1 = s.heap.objs.size) →
      wpAny (model prog w) A (execs body env) (TurnEnd h₀ L (J (i + 1)) own { s with heap := h, toks := tk } Q) E { s with heap := h, toks := tk })
    (done : ∀ m₁ news₁ h tk, J y.cps.size m₁ news₁ → Fr h₀ L h m₁ → News h₀ L h news₁ → Q .next { s with heap := h, toks := tk }) :
    wpAny (model prog w) A (pyIter (.str y t)) (fun it s₂ => LoopAtV prog w A h₀ env x body Q E it s₂) E s := by
  subst he; exact iterS J hh hy F N hj hJ turn done
end
section
open LCg
variable {prog : Program} {w : World} {A : Around} {E : Value → Shared → Prop} {s : Shared} {h₀ : Heap} {L : Addr} {m : Str → Option Value} {env : Env}
theorem CompRest.inv {elt : Expr} {x : Str} {scope : Scope} {cl : List (Str × Addr)} {S : List (Addr × Obj) → Prop} {P : Nat → Value → Prop} {Fin : List Value → List (Addr × Obj) → Prop} {n : Nat}
    (J : Nat → List Value → List (Addr × Obj) → Prop)
    (turn : ∀ i ys news v I oI C oC D m₂ h tk (E' : Value → Shared → Prop), i < n → J i ys news → P i v → NsObj oC m₂ → m₂ x = some v → Fr h₀ L h m → News h₀ L h ((I, oI) :: (C, oC) :: (D, lst ys) :: news) → Off3 I C D news → ((@Ne Nat I C) ∧ (@Ne Nat I D) ∧ (@Ne Nat C D)) →
      wpAny (model prog w) A (eval elt (compEnvC scope cl C env)) (CompEnd h₀ L m { s with heap := h, toks := tk } I oI C oC D (lst ys) S (fun y news' => J (i + 1) (ys ++ [y]) news')) E' { s with heap := h, toks := tk })
    (fin : ∀ ys news, J n ys news → Fin ys news) {ys : List Value} {news : List (Addr × Obj)} (k i : Nat) (hk : i + k = n) (h0 : J i ys news) :
    LCg.CompRest prog w A h₀ L m env elt x scope cl s S P Fin k i ys news := by
  induction k generalizing i ys news with
  | zero => obtain rfl : i = n := hk; exact fin _ _ h0
  | succ k ih =>
    intro v I oI C oC D m₂ h tk E' hP hoC hm F N off ne
    refine wpAny_mono (turn i ys news v I oI C oC D m₂ h tk E' (by omega) h0 hP hoC hm F N off ne) (fun y s₂ h₂ => ?_) fun _ _ e => e
    obtain ⟨h', tk', news', e, F', N', off', hS, r⟩ := h₂
    exact ⟨h', tk', news', e, F', N', off', hS, ih (i + 1) (by omega) r⟩
theorem CompRestT.inv {ct elt : Expr} {x : Str} {scope : Scope} {cl : List (Str × Addr)} {S : List (Addr × Obj) → Prop} {P : Nat → Value → Prop} {Fin : List Value → List (Addr × Obj) → Prop} {n : Nat}
    (J : Nat → List Value → List (Addr × Obj) → Prop)
    (turn : ∀ i ys news v I oI C oC D m₂ h tk (E' : Value → Shared → Prop), i < n → J i ys news → P i v → NsObj oC m₂ → m₂ x = some v → Fr h₀ L h m → News h₀ L h ((I, oI) :: (C, oC) :: (D, lst ys) :: news) → Off3 I C D news → ((@Ne Nat I C) ∧ (@Ne Nat I D) ∧ (@Ne Nat C D)) →
      wpAny (model prog w) A (isTrue ct (compEnvC scope cl C env) (eval ct (compEnvC scope cl C env))) (fun ok s' => if ok = true then
        wpAny (model prog w) A (eval elt (compEnvC scope cl C env)) (CompEnd h₀ L m { s with heap := h, toks := tk } I oI C oC D (lst ys) S (fun y news' => J (i + 1) (ys ++ [y]) news')) E' s'
        else CompEnd h₀ L m { s with heap := h, toks := tk } I oI C oC D (lst ys) S (fun _ news' => J (i + 1) ys news') Value.none s') E' { s with heap := h, toks := tk })
    (fin : ∀ ys news, J n ys news → Fin ys news) {ys : List Value} {news : List (Addr × Obj)} (k i : Nat) (hk : i + k = n) (h0 : J i ys news) :
    LCt.CompRestT prog w A h₀ L m env ct elt x scope cl s S P Fin k i ys news := by
  induction k generalizing i ys news with
  | zero => obtain rfl : i = n := hk; exact fin _ _ h0
  | succ k ih =>
    intro v I oI C oC D m₂ h tk E' hP hoC hm F N off ne
    refine wpAny_mono (turn i ys news v I oI C oC D m₂ h tk E' (by omega) h0 hP hoC hm F N off ne) (fun ok s₂ h₂ => ?_) fun _ _ e => e
    cases ok with
    | true =>
      simp only [if_true] at h₂ ⊢
      refine wpAny_mono h₂ (fun y s₃ h₃ => ?_) fun _ _ e => e
      obtain ⟨h', tk', news', e, F', N', off', hS, r⟩ := h₃
      exact ⟨h', tk', news', e, F', N', off', hS, ih (i + 1) (by omega) r⟩
    | false =>
      simp only [Bool.false_eq_true, if_false] at h₂ ⊢
      obtain ⟨h', tk', news', e, F', N', off', hS, r⟩ := h₂
      exact ⟨h', tk', news', e, F', N', off', hS, ih (i + 1) (by omega) r⟩
end
end Mine
end

section
namespace Mine
structure Hold (P : Prop) : Prop where
  it : P
theorem Fr.as {h₀ h : Heap} {L : Addr} {m m' : Str → Option Value} (F : Fr h₀ L h m) (e : m = m') : Fr h₀ L h m' := e ▸ F
theorem wpAny_execs_at {prog : Program} {w : World} {A : Around} {E : Value → Shared → Prop} {s : Shared} {env : Env} {l : List Stmt} {Q : Flow → Shared → Prop} (n : Nat)
    (h : wpAny (model prog w) A (execs (l.take n) env) (fun f s' => match f with | .next => wpAny (model prog w) A (execs (l.drop n) env) Q E s' | f => Q f s') E s) : wpAny (model prog w) A (execs l env) Q E s := by
  have key : ∀ pre post : List Stmt, execs (pre ++ post) env = (do match ← execs pre env with | .next => execs post env | f => pure f) := by
    intro pre post
    induction pre with
    | nil => rfl
    | cons st r ih =>
      show (do match ← exec st env with | .next => execs (r ++ post) env | f => pure f) = (do match ← (do match ← exec st env with | .next => execs r env | f => pure f) with | .next => execs post env | f => pure f)
      rw [ih, bind_assoc]
      congr 1
      funext f
      cases f <;> rfl
  rw [← List.take_append_drop n l, key]
  refine wpAny_bind (wpAny_mono h (fun f s' h => ?_) fun _ _ e => e)
  cases f with
  | next => exact h
  | _ => exact wpAny_pure h
theorem block_at {prog : Program} {w : World} {A : Around} {E : Value → Shared → Prop} {s : Shared} {env : Env} {l : List Stmt} {Q : Flow → Shared → Prop} (n : Nat) (M : Shared → Prop)
    (h : wpAny (model prog w) A (execs (l.take n) env) (fun f s' => Hold (f = .next ∧ M s')) E s)
    (r : ∀ s', M s' → wpAny (model prog w) A (execs (l.drop n) env) Q E s') : wpAny (model prog w) A (execs l env) Q E s :=
  wpAny_execs_at n (wpAny_mono h (fun f s' ⟨e, m⟩ => by subst e; exact r s' m) fun _ _ e => e)
theorem block_or {prog : Program} {w : World} {A : Around} {E : Value → Shared → Prop} {s : Shared} {env : Env} {l : List Stmt} {Q : Flow → Shared → Prop} (n : Nat) (M : Shared → Prop)
    (h : wpAny (model prog w) A (execs (l.take n) env) (fun f s' => match f with | .next => Hold (M s') | f => Q f s') E s)
    (r : ∀ s', M s' → wpAny (model prog w) A (execs (l.drop n) env) Q E s') : wpAny (model prog w) A (execs l env) Q E s :=
  wpAny_execs_at n (wpAny_mono h (fun f s' h => by cases f with | next => exact r s' h.it | _ => exact h) fun _ _ e => e)
end Mine
end

section
namespace Mine
noncomputable def pieceF : List Nat → Int → Option Int
  | [], a => some a
  | c :: cs, a => if 48 ≤ c ∧ c ≤ 57 then pieceF cs (a * 10 + ((c : Int) - 48)) else none
noncomputable def piecesF : List Str → Int → Option Int
  | [], a => some a
  | p :: ps, a => if p == Str.ofString "" then none else (pieceF p.cps.toList a).bind (piecesF ps)
noncomputable def numNeg (x : Str) : Bool := Txt.slice (Txt.stripChars x (Str.ofString " ")) none (some 1) == Str.ofString "-"
noncomputable def numBody (x : Str) : Str :=
  if (Txt.slice (Txt.stripChars x (Str.ofString " ")) none (some 1) == Str.ofString "+") = true then Txt.slice (Txt.stripChars x (Str.ofString " ")) (some 1) none
  else if numNeg x = true then Txt.slice (Txt.stripChars x (Str.ofString " ")) (some 1) none else Txt.stripChars x (Str.ofString " ")
noncomputable def numF (x : Str) : Option Int := (piecesF (Txt.split (numBody x) (Str.ofString "_")) 0).map fun n => if numNeg x = true then -n else n
noncomputable def NumVal (x : Str) (v : Value) : Prop := match numF x with | none => v = .none | some n => ∃ t, v = .int n t
noncomputable abbrev figs : Str := Str.ofString "0123456789"
theorem fig_occ : ∀ c < 128, Builtin.Str.occurrences figs ⟨#[c]⟩ 0 figs.length 1 = if 48 ≤ c ∧ c ≤ 57 then [c - 48] else [] := by decide +kernel
theorem drop_get {α : Type} {l : List α} {i : Nat} {p : α} (h : l[i]? = some p) : l.drop i = p :: l.drop (i + 1) := by
  obtain ⟨hi, e⟩ := List.getElem?_eq_some_iff.mp h
  rw [List.drop_eq_getElem_cons hi, e]
theorem pieces_drop {ps : List Str} {i : Nat} {p : Str} {a : Int} (h : ps[i]? = some p) : piecesF (ps.drop i) a = if p == Str.ofString "" then none else (pieceF p.cps.toList a).bind (piecesF (ps.drop (i + 1))) := by
  rw [drop_get h]; rfl
theorem piece_drop {ps : List Nat} {i : Nat} {c : Nat} {a : Int} (h : ps[i]? = some c) : pieceF (ps.drop i) a = if 48 ≤ c ∧ c ≤ 57 then pieceF (ps.drop (i + 1)) (a * 10 + ((c : Int) - 48)) else none := by
  rw [drop_get h]; rfl
theorem strip_mem {x y : Str} : ∀ c ∈ (Txt.stripChars x y).cps.toList, c ∈ x.cps.toList := by
  intro c hc
  rw [Txt.stripChars, PySem.W.stripBy_eq] at hc
  unfold PySem.W.stripped Builtin.Str.strSub at hc
  rw [Array.toList_extract, List.extract_eq_take_drop] at hc
  exact List.mem_of_mem_drop (List.mem_of_mem_take hc)
theorem Asc.body {x : Str} (h : Asc x) : Asc (numBody x) := by
  have h1 : Asc (Txt.stripChars x (Str.ofString " ")) := fun c hc => h c (strip_mem c hc)
  unfold numBody
  split
  · exact h1.slice _ _
  · split
    · exact h1.slice _ _
    · exact h1
theorem Asc.all {x : Str} (h : Asc x) : x.cps.all (· < 128) = true := by
  rw [← Array.all_toList, List.all_eq_true]
  intro c hc
  have := (h c hc).2
  exact decide_eq_true (by omega)
theorem strValues_get {l : List (Str × Tok)} {i : Nat} {v : Value} (h : (strValues l)[i]? = some v) : ∃ p u, (l.map (·.1))[i]? = some p ∧ v = .str p u := by
  unfold strValues at h
  rw [List.getElem?_map] at h
  cases e : l[i]? with
  | none => rw [e] at h; cases h
  | some q => rw [e] at h; refine ⟨q.1, q.2, by rw [List.getElem?_map, e]; rfl, by injection h with h; exact h.symm⟩
noncomputable def insOf (x : Str) : Str := (Txt.partition (Txt.partition x (Str.ofString "(")).2.2 (Str.ofString ")")).1
noncomputable def cloOf (x : Str) : Str := (Txt.partition (Txt.partition x (Str.ofString "(")).2.2 (Str.ofString ")")).2.1
noncomputable def rstOf (x : Str) : Str := (Txt.partition (Txt.partition x (Str.ofString "(")).2.2 (Str.ofString ")")).2.2
noncomputable def numPart (I : Str) : Str := (Txt.rpartition (Txt.slice I none (some (-1))) (Txt.item I 0)).2.2
noncomputable def readIn (C I : Str) : Rd :=
  if (C == Str.ofString "") = true then .proto else if (I == Str.ofString "") = true then .proto
  else if Txt.count I (Txt.item I 0) ≠ 4 then .proto else if (Txt.item I (-1) != Txt.item I 0) = true then .proto
  else match numF (numPart I) with | none => .value | some n => .ok n
noncomputable def readF (x : Str) : Rd := if (Txt.slice x none (some 3) != Str.ofString "229") = true then .reply else readIn (cloOf x) (insOf x)
theorem rpart_len (x y : Str) : (Txt.rpartition x y).2.2.length ≤ x.length := (fact_rpartition x y).2.2
theorem part_len (x y : Str) : (Txt.partition x y).1.length ≤ x.length := (fact_partition x y).1
theorem part_len2 (x y : Str) : (Txt.partition x y).2.2.length ≤ x.length := (fact_partition x y).2.2
theorem part_mem {x y : Str} {c : Nat} (h : c ∈ (Txt.partition x y).1.cps.toList ∨ c ∈ (Txt.partition x y).2.2.cps.toList) : c ∈ x.cps.toList := by
  have e : (((Txt.partition x y).1.cps ++ (Txt.partition x y).2.1.cps) ++ (Txt.partition x y).2.2.cps).toList = x.cps.toList := congrArg (fun z : Str => z.cps.toList) (PySem.StrLaws.partition_sum x y)
  rw [Array.toList_append, Array.toList_append] at e
  rw [← e]
  simp only [List.mem_append]
  rcases h with h | h
  · exact .inl (.inl h)
  · exact .inr h
theorem Asc.part1 {x : Str} (h : Asc x) (y : Str) : Asc (Txt.partition x y).1 := fun c hc => h c (part_mem (.inl hc))
theorem Asc.part3 {x : Str} (h : Asc x) (y : Str) : Asc (Txt.partition x y).2.2 := fun c hc => h c (part_mem (.inr hc))
theorem sub_mem {x : Str} {i j : Nat} {c : Nat} (h : c ∈ (Builtin.Str.strSub x i j).cps.toList) : c ∈ x.cps.toList := by
  unfold Builtin.Str.strSub at h
  rw [Array.toList_extract, List.extract_eq_take_drop] at h
  exact List.mem_of_mem_drop (List.mem_of_mem_take h)
theorem Asc.rpart {x : Str} (h : Asc x) (y : Str) : Asc (Txt.rpartition x y).2.2 := by
  rcases rpartition_tail x y with ⟨e, _⟩ | ⟨i, e, _⟩
  · rw [e]; exact h
  · rw [e]; exact fun c hc => h c (sub_mem hc)
theorem Asc.ins {x : Str} (h : Asc x) : Asc (insOf x) := (h.part3 _).part1 _
theorem ins_len (x : Str) : (insOf x).length ≤ x.length := Nat.le_trans (part_len _ _) (part_len2 _ _)
theorem Asc.num {I : Str} (h : Asc I) : Asc (numPart I) := (h.slice _ _).rpart _
theorem numPart_len {I : Str} : (numPart I).length ≤ (Txt.slice I none (some (-1))).length := rpart_len _ _
end Mine
end

section
set_option linter.all false
namespace Mine
noncomputable def eps {α : Type} (a : α) (G : α → Prop) : α := @Classical.epsilon α ⟨a⟩ (fun p => ¬ G p)
theorem eps_at {α : Type} {a c : α} {G : α → Prop} (hc : c = eps a G) (h : G c) (p : α) : G p := Classical.byContradiction fun n => (Classical.epsilon_spec (p := fun p => ¬ G p) ⟨p, n⟩) (show G (eps a G) from hc ▸ h)
section
variable {prog : Program} {w : World} {A : Around} {E : Value → Shared → Prop} {s : Shared} {K : Frag} {base : Heap} {mg mb : Str → Option Value} {p : Program} {loose : List Str} {mean : ExcName → Option Value} {Q : Value → Shared → Prop} {outer : List Env}
theorem enterP0 (L : Addr) (hL : s.heap.objs.size = L) {name qual : Str} {params : Arguments} {body : List Stmt} {scope : Scope} {dV kV doc pm cdv ct oc : Value} {an od : Option Addr} {osl : Array (Option Value)} {f : Addr} {args : List Value} {binds : List (Str × Value)}
    (B : Below A base outer s.heap) (X₀ : K.In s.heap) (T : Top p loose mean mg mb s.heap)
    (ho : K.lookup f = some ⟨oc, od, .func (fnOf name qual params body scope dV kV doc pm an cdv ct), osl⟩) (hcd : codeIn K cdv qual = true) (hroom : A.depth < recursionLimit)
    (hbind : BindsTo s (fnOf name qual params body scope dV kV doc pm an cdv ct) ⟨args, []⟩ binds) (hloc : ∀ y ∈ binds, scope.names.lookup y.1 = some .local)
    (h : ∀ h₁, Fr s.heap L h₁ (fun y => binds.reverse.lookup y) → News s.heap L h₁ [] →
      wpAny (model prog w) (A.deeper (envOf qual scope L f cdv)) (execs body (envOf qual scope L f cdv))
        (fun fl s' => Q (match fl with | .ret v => v | _ => .none) s')
        (fun e s' => wpAny (model prog w) (A.deeper (envOf qual scope L f cdv)) (leaving (envOf qual scope L f cdv) e) (fun _ s'' => E e s'') (fun e' s'' => E e' s'') s')
        { s with heap := h₁, toks := s.toks + binds.length })
    (hco : scope.isCoroutine = false) (hgen : scope.isGenerator = false) (hk : scope.kind = .function)
    (hcell : ∀ x ∈ scope.names, x.2 ≠ .cell) : wpAny (model prog w) A (call (.ref f) args) Q E s := by
  subst hL
  refine wpAny_call (codeAny_call_def (fd := fnOf name qual params body scope dV kV doc pm an cdv ct) (body := body) (binds := binds) hroom (X₀ _ _ ho) rfl T.nolimit (codeRec_of X₀ hcd) rfl hbind hcell hloc (fun h₁ hns hk₁ => ?_) hco hgen hk)
  exact h h₁ ⟨hns, hk₁, Nat.le_refl _⟩ News.nil
theorem enterC0 (L : Addr) (hL : s.heap.objs.size = L) {name qual : Str} {params : Arguments} {body : List Stmt} {scope : Scope} {dV kV doc pm cdv ct oc : Value} {an od : Option Addr} {osl : Array (Option Value)} {f : Addr} {args : List Value} {binds : List (Str × Value)}
    (B : Below A base outer s.heap) (X₀ : K.In s.heap) (T : Top p loose mean mg mb s.heap)
    (ho : K.lookup f = some ⟨oc, od, .func (fnOf name qual params body scope dV kV doc pm an cdv ct), osl⟩) (hcd : codeIn K cdv qual = true) (hroom : A.depth < recursionLimit)
    (hbind : BindsTo s (fnOf name qual params body scope dV kV doc pm an cdv ct) ⟨args, []⟩ binds) (hloc : ∀ y ∈ binds, scope.names.lookup y.1 = some .local)
    (h : ∀ h₁, Fr s.heap L h₁ (fun y => binds.reverse.lookup y) → News s.heap L h₁ [] →
      wpC (model prog w) (A.deeper (envOf qual scope L f cdv)) (execs body (envOf qual scope L f cdv))
        (fun fl s' => Q (match fl with | .ret v => v | _ => .none) s')
        (fun e s' => wpAny (model prog w) (A.deeper (envOf qual scope L f cdv)) (leaving (envOf qual scope L f cdv) e) (fun _ s'' => E e s'') (fun e' s'' => E e' s'') s')
        { s with heap := h₁, toks := s.toks + binds.length })
    (hco : scope.isCoroutine = false) (hgen : scope.isGenerator = false) (hk : scope.kind = .function)
    (hcell : ∀ x ∈ scope.names, x.2 ≠ .cell) : wpC (model prog w) A (call (.ref f) args) Q E s := by
  subst hL
  refine wpC_call (codeC_call_function hroom (X₀ _ _ ho) rfl hco hgen rfl (codeRec_of X₀ hcd) (hbind _ _ _ _ ?_))
  refine wpAny_newFunctionEnv hcell hloc (fun h₀ hns₀ hsb₀ => ⟨T.nolimit.fresh _ hsb₀, codeC_func (h h₀ ⟨hns₀, fun b o e => ?_, Nat.le_refl _⟩ News.nil)⟩) hk
  exact hsb₀.extBut b o (Nat.ne_of_lt (Heap.lt_size e)) (Heap.get?_push_of_some _ e)
end
end Mine
end

section
namespace Mine
set_option maxRecDepth 100000
set_option maxHeartbeats 1000000
noncomputable abbrev numMap (x b : Str) (ng : Bool) (t tb t0 : Tok) (op of : Option Value) (a : Int) : Str → Option Value := fun y =>
    if y = Str.ofString "total" then some (.int a t0) else if y = Str.ofString "figure" then of else if y = Str.ofString "piece" then op else
    if y = Str.ofString "body" then some (.str b tb) else if y = Str.ofString "minus" then some (.bool ng) else
    List.lookup y [(Str.ofString "text", Value.str x t)].reverse
noncomputable def number_spec.Stm (w : World) (A : Around) (E : Value → Shared → Prop) (s : Shared) (base : Heap) (mg : Str → Option Value) (mb : Str → Option Value) (mean : ExcName → Option Value) (Q : Value → Shared → Prop) (outer : List Env) (x : Str) (t : Tok) : Prop := ∀  (B : Below A base outer s.heap) (X : (Mine.KC w.params).In s.heap) (T : Top EMP LS mean mg mb s.heap) (hh : A.handled = none) (hd : A.depth + 1 < recursionLimit) (hx : x.length ≤ 500) (ha : Asc x) (ret : ∀ v h' tk, Kp s.heap h' → NumVal x v → Q v { s with heap := h', toks := tk }), wpAny (model PROG w) A (call (.ref 129) [.str x t]) Q E s
noncomputable def number_spec.cst : (World) × (Around) × (Value → Shared → Prop) × (Shared) × (Heap) × (Str → Option Value) × (Str → Option Value) × (ExcName → Option Value) × (Value → Shared → Prop) × (List Env) × (Str) × (Tok) := eps (aWorld 0, {}, fun _ _ => True, {}, {}, fun _ => none, fun _ => none, fun _ => none, fun _ _ => True, [], Str.empty, 0) (fun q => number_spec.Stm q.1 q.2.1 q.2.2.1 q.2.2.2.1 q.2.2.2.2.1 q.2.2.2.2.2.1 q.2.2.2.2.2.2.1 q.2.2.2.2.2.2.2.1 q.2.2.2.2.2.2.2.2.1 q.2.2.2.2.2.2.2.2.2.1 q.2.2.2.2.2.2.2.2.2.2.1 q.2.2.2.2.2.2.2.2.2.2.2)
namespace number_spec
noncomputable def s : Shared := cst.2.2.2.1
noncomputable def x : Str := cst.2.2.2.2.2.2.2.2.2.2.1
noncomputable def t : Tok := cst.2.2.2.2.2.2.2.2.2.2.2
noncomputable def L' : Addr := s.heap.objs.size
theorem it : Stm cst.1 cst.2.1 cst.2.2.1 s cst.2.2.2.2.1 cst.2.2.2.2.2.1 cst.2.2.2.2.2.2.1 cst.2.2.2.2.2.2.2.1 cst.2.2.2.2.2.2.2.2.1 cst.2.2.2.2.2.2.2.2.2.1 x t := by
  intro  B X T hh hd hx ha ret
  have hfill : (fun (_ : OpenLaw) (_ : Params → Frag) => True) PySem.Challenge.rw_nq0040_01 Mine.KC := by (k_fill; trivial)
  clear hfill
  w_top off
  k_dflt (refine' enterP0 (L := L') rfl (binds := [(Str.ofString "text", .str x t)]) ?k1 ?k2 ?k3 ?k6 ?k7 ?k8 ?k9 ?kB ?_ ?c2 ?c3 ?c4 ?c5; (case k1 => assumption); (case k2 => assumption); (case k3 => assumption); (case k6 => k_is); (case k7 => k_is); (case k8 => omega); (case k9 => first | exact BindsTo.of_eq rfl | exact binds_K (by assumption) rfl (by k_is) rfl rfl rfl); (case c5 => decide); (case kB => exact locs rfl); (case c2 => exact rfl); (case c3 => exact rfl); (case c4 => exact rfl); k_whole)
  intro h' F' N'
  try dsimp only
  k_fold
  refine block_at 4 (fun s' => (numBody x).length ≤ 500 ∧ ∃ h' tk tb t0, s' = { s with heap := h', toks := tk } ∧ Fr s.heap L' h' (numMap x (numBody x) (numNeg x) t tb t0 none none 0)) ?_ ?_
  · dsimp only [List.take]
    k_steps
    · refine' ⟨rfl, ?a, _, _, _, _, rfl, Fr.as (by assumption) ?b⟩
      case a => unfold numBody; rw [if_pos (by assumption)]; omega
      case b =>
        have e : numBody x = Txt.slice (Txt.stripChars x (Str.ofString " ")) (some 1) none := by unfold numBody; rw [if_pos (by assumption)]
        rw [e]
        (funext zz; by_cases hz0 : zz = PySem.Str.ofString "total"; (focus (subst hz0; rfl)); by_cases hz1 : zz = PySem.Str.ofString "figure"; (focus (subst hz1; rfl)); by_cases hz2 : zz = PySem.Str.ofString "piece"; (focus (subst hz2; rfl)); by_cases hz3 : zz = PySem.Str.ofString "body"; (focus (subst hz3; rfl)); by_cases hz4 : zz = PySem.Str.ofString "minus"; (focus (subst hz4; rfl)); (try dsimp only); (try simp only [if_neg hz0]); (try simp only [if_neg hz1]); (try simp only [if_neg hz2]); (try simp only [if_neg hz3]); (try simp only [if_neg hz4]); (try rfl))
    · refine' ⟨rfl, ?a, _, _, _, _, rfl, Fr.as (by assumption) ?b⟩
      case a => unfold numBody numNeg; rw [if_neg (by simp_all), if_pos (by assumption)]; omega
      case b =>
        have e : numBody x = Txt.slice (Txt.stripChars x (Str.ofString " ")) (some 1) none := by unfold numBody numNeg; rw [if_neg (by simp_all), if_pos (by assumption)]
        rw [e]
        (funext zz; by_cases hz0 : zz = PySem.Str.ofString "total"; (focus (subst hz0; rfl)); by_cases hz1 : zz = PySem.Str.ofString "figure"; (focus (subst hz1; rfl)); by_cases hz2 : zz = PySem.Str.ofString "piece"; (focus (subst hz2; rfl)); by_cases hz3 : zz = PySem.Str.ofString "body"; (focus (subst hz3; rfl)); by_cases hz4 : zz = PySem.Str.ofString "minus"; (focus (subst hz4; rfl)); (try dsimp only); (try simp only [if_neg hz0]); (try simp only [if_neg hz1]); (try simp only [if_neg hz2]); (try simp only [if_neg hz3]); (try simp only [if_neg hz4]); (try rfl))
    · refine' ⟨rfl, ?a, _, _, _, _, rfl, Fr.as (by assumption) ?b⟩
      case a => unfold numBody numNeg; rw [if_neg (by simp_all), if_neg (by simp_all)]; omega
      case b =>
        have e : numBody x = Txt.stripChars x (Str.ofString " ") := by unfold numBody numNeg; rw [if_neg (by simp_all), if_neg (by simp_all)]
        rw [e]
        (funext zz; by_cases hz0 : zz = PySem.Str.ofString "total"; (focus (subst hz0; rfl)); by_cases hz1 : zz = PySem.Str.ofString "figure"; (focus (subst hz1; rfl)); by_cases hz2 : zz = PySem.Str.ofString "piece"; (focus (subst hz2; rfl)); by_cases hz3 : zz = PySem.Str.ofString "body"; (focus (subst hz3; rfl)); by_cases hz4 : zz = PySem.Str.ofString "minus"; (focus (subst hz4; rfl)); (try dsimp only); (try simp only [if_neg hz0]); (try simp only [if_neg hz1]); (try simp only [if_neg hz2]); (try simp only [if_neg hz3]); (try simp only [if_neg hz4]); (try rfl))
  · rintro s' ⟨hlen, h1, tk1, tb, t0, rfl, F⟩
    have N : News s.heap L' h1 [] := News.nil
    dsimp only [List.drop]
    k_steps
    rename_i l h2 k2 hps hst hle hil F2 N2
    have hasc : ∀ p ∈ l.map (·.1), Asc p := fun p hp => Asc.split ha.body (hps ▸ hp)
    refine forL (L := L') rfl (fun i m news => news = [] ∧ ∃ a t0 op of, m = numMap x (numBody x) (numNeg x) t tb t0 op of a ∧ piecesF (l.map (·.1)) 0 = piecesF ((l.map (·.1)).drop i) a) (by exact hh) hil ?_ F2 News.nil ⟨rfl, 0, t0, none, none, rfl, rfl⟩ (fun _ _ _ h => h.1 ▸ NoItB.refl) ?_ ?_
    · exact (N2 _ (List.mem_cons_self ..)).2.1
    · rintro i v m₁ news₁ h3 tk3 own hv ⟨rfl, a, t1, op, of, rfl, hpf⟩ F3 N3 ho
      dsimp only [List.nil_append] at N3
      obtain ⟨p, u, hp, rfl⟩ := strValues_get hv
      have hpa := hasc p (List.mem_of_getElem? hp)
      rw [pieces_drop hp] at hpf
      k_steps
      · dsimp only [TurnEnd]
        refine ret _ _ _ (Fr.keep (by assumption)) ?_
        unfold NumVal numF
        rw [← hps, hpf, if_pos (by assumption)]; rfl
      · rw [if_neg (by simp_all)] at hpf
        refine For_invVF (by assumption) rfl rfl ?_
        k_steps
        refine forS (L := L') rfl (fun j m news => news = own ∧ ∃ b t0 of, m = numMap x (numBody x) (numNeg x) t tb t0 (some (.str p u)) of b ∧ pieceF p.cps.toList a = pieceF (p.cps.toList.drop j) b) (by exact hh) hpa.all F3 N3 ⟨rfl, a, t1, of, ?_, rfl⟩ (fun _ _ _ h => h.1 ▸ NoItB.refl) ?_ ?_
        · (funext zz; by_cases hz0 : zz = PySem.Str.ofString "total"; (focus (subst hz0; rfl)); by_cases hz1 : zz = PySem.Str.ofString "figure"; (focus (subst hz1; rfl)); by_cases hz2 : zz = PySem.Str.ofString "piece"; (focus (subst hz2; rfl)); (try dsimp only); (try simp only [if_neg hz0]); (try simp only [if_neg hz1]); (try simp only [if_neg hz2]); (try rfl))
        · rintro j c v m₁ news₁ h4 tk4 own2 hcv ⟨rfl, b, t2, of2, rfl, hpf2⟩ F5 N5 ho2
          have hc := hpa c (by rw [Array.mem_toList_iff]; exact Array.mem_of_getElem? hcv)
          have hocc := fig_occ c (by omega)
          rw [piece_drop (by rw [Array.getElem?_toList]; exact hcv)] at hpf2
          k_steps
          · dsimp only [TurnEnd]
            refine ret _ _ _ (Fr.keep (by assumption)) ?_
            have hno : ¬ (48 ≤ c ∧ c ≤ 57) := fun hy => by rw [if_pos hy] at hocc; simp_all
            unfold NumVal numF
            rw [← hps, hpf, hpf2, if_neg hno]; rfl
          · have hyes : 48 ≤ c ∧ c ≤ 57 := Classical.byContradiction fun hn => by rw [if_neg hn] at hocc; simp_all
            rw [if_pos hyes] at hocc hpf2
            refine SC.index hocc ?_
            k_steps
            refine' TurnEnd.go news₁ (by assumption) (by assumption) (fun _ h => h) ⟨rfl, _, _, _, ?e1, ?e2⟩
            case e1 => (funext zz; by_cases hz0 : zz = PySem.Str.ofString "total"; (focus (subst hz0; rfl)); by_cases hz1 : zz = PySem.Str.ofString "figure"; (focus (subst hz1; rfl)); by_cases hz2 : zz = PySem.Str.ofString "piece"; (focus (subst hz2; rfl)); (try dsimp only); (try simp only [if_neg hz0]); (try simp only [if_neg hz1]); (try simp only [if_neg hz2]); (try rfl))
            case e2 => exact hpf2.trans (by congr 1; omega)
        · rintro m₁ news₁ h4 tk4 ⟨rfl, b, t2, of2, rfl, hpf2⟩ F5 N5
          k_steps
          refine TurnEnd.go [] F5 N5 (fun _ h => h) ⟨rfl, b, t2, _, _, rfl, ?_⟩
          rw [hpf, hpf2, List.drop_of_length_le (by simp)]; rfl
    · rintro m₁ news₁ h3 tk3 ⟨rfl, a, t1, op, of, rfl, hpf⟩ F3 N3
      rw [List.drop_of_length_le (by simp [strValues])] at hpf
      k_steps
      · dsimp only
        refine ret _ _ _ (Fr.keep (by assumption)) ?_
        unfold NumVal numF
        rw [← hps, hpf]
        show ∃ t, _ = Value.int (if numNeg x = true then -a else a) t
        rw [if_pos (by assumption)]; exact ⟨_, rfl⟩
      · dsimp only
        refine ret _ _ _ (Fr.keep (by assumption)) ?_
        unfold NumVal numF
        rw [← hps, hpf]
        show ∃ t, _ = Value.int (if numNeg x = true then -a else a) t
        rw [if_neg (by simp_all)]; exact ⟨_, rfl⟩
end number_spec
theorem number_spec {w : World} {A : Around} {E : Value → Shared → Prop} {s : Shared} {base : Heap} {mg : Str → Option Value} {mb : Str → Option Value} {mean : ExcName → Option Value} {Q : Value → Shared → Prop} {outer : List Env} {x : Str} {t : Tok} 
   (B : Below A base outer s.heap) (X : (Mine.KC w.params).In s.heap) (T : Top EMP LS mean mg mb s.heap) (hh : A.handled = none) (hd : A.depth + 1 < recursionLimit) (hx : x.length ≤ 500) (ha : Asc x) (ret : ∀ v h' tk, Kp s.heap h' → NumVal x v → Q v { s with heap := h', toks := tk }) : wpAny (model PROG w) A (call (.ref 129) [.str x t]) Q E s :=
  (eps_at (G := fun q => number_spec.Stm q.1 q.2.1 q.2.2.1 q.2.2.2.1 q.2.2.2.2.1 q.2.2.2.2.2.1 q.2.2.2.2.2.2.1 q.2.2.2.2.2.2.2.1 q.2.2.2.2.2.2.2.2.1 q.2.2.2.2.2.2.2.2.2.1 q.2.2.2.2.2.2.2.2.2.2.1 q.2.2.2.2.2.2.2.2.2.2.2) (c := number_spec.cst) rfl number_spec.it (w, A, E, s, base, mg, mb, mean, Q, outer, x, t) : number_spec.Stm w A E s base mg mb mean Q outer x t)  B X T hh hd hx ha ret
end Mine
end

section
namespace Mine
set_option maxRecDepth 100000
set_option maxHeartbeats 8000000
noncomputable abbrev pairObj (hs : Str) (th : Tok) (n : Int) (tn : Tok) : Obj := { cls := .type "tuple", data := .seq #[.str hs th, .int n tn] }
noncomputable def ParseErr (x : Str) (t : Tok) (C : Value) (vs : List Value) : Prop := match parseF x with
  | .reply => C = .ref 37 ∧ vs = [.str x t]
  | .proto => C = .ref 49 ∧ vs = [.str x t]
  | .value => C = .type "ValueError" ∧ ∃ m tm, vs = [.str m tm]
  | .ok _ => False
theorem getD_of {ps : List Str} {i : Nat} {y : Str} (hy : ps[i]? = some y) : ps.getD i Str.empty = y ∧ y ∈ ps := by
  refine ⟨?_, List.mem_of_getElem? hy⟩
  rw [List.getD_eq_getElem?_getD, hy]; rfl
noncomputable def parse_spec.Stm (w : World) (A : Around) (E : Value → Shared → Prop) (s : Shared) (base : Heap) (mg : Str → Option Value) (mb : Str → Option Value) (mean : ExcName → Option Value) (Q : Value → Shared → Prop) (outer : List Env) (hs : Str) (t : Tok) (th : Tok) (p : Addr) (pv : Value) : Prop := ∀ (x : Str) (B : Below A base outer s.heap) (X : (Mine.KC w.params).In s.heap) (T : Top EMP LS mean mg mb s.heap) (hh : A.handled = none) (hd : A.depth + 1 < recursionLimit) (hu : A.units + 8 < cLine) (hx : x.length ≤ 500) (ha : Asc x) (hp : IsTup s.heap p #[.str hs th, pv]) (err : ∀ e C t' vs h' tk, ParseErr x t C vs → RaisedS base s.heap outer e C t' vs [] h' → s.heap.UpToSlots h' → E (.ref e) { s with heap := h', toks := tk }) (ret : ∀ n a tn h' tk, parseF x = .ok n → Kp s.heap h' → s.heap.get? a = none → h'.get? a = some (pairObj hs th n tn) → Q (.ref a) { s with heap := h', toks := tk }), wpC (model PROG w) A (call (.ref 58) [.str x t, .ref p]) Q E s
noncomputable def parse_spec.cst : (World) × (Around) × (Value → Shared → Prop) × (Shared) × (Heap) × (Str → Option Value) × (Str → Option Value) × (ExcName → Option Value) × (Value → Shared → Prop) × (List Env) × (Str) × (Tok) × (Tok) × (Addr) × (Value) := eps (aWorld 0, {}, fun _ _ => True, {}, {}, fun _ => none, fun _ => none, fun _ => none, fun _ _ => True, [], Str.empty, 0, 0, 0, .none) (fun q => parse_spec.Stm q.1 q.2.1 q.2.2.1 q.2.2.2.1 q.2.2.2.2.1 q.2.2.2.2.2.1 q.2.2.2.2.2.2.1 q.2.2.2.2.2.2.2.1 q.2.2.2.2.2.2.2.2.1 q.2.2.2.2.2.2.2.2.2.1 q.2.2.2.2.2.2.2.2.2.2.1 q.2.2.2.2.2.2.2.2.2.2.2.1 q.2.2.2.2.2.2.2.2.2.2.2.2.1 q.2.2.2.2.2.2.2.2.2.2.2.2.2.1 q.2.2.2.2.2.2.2.2.2.2.2.2.2.2)
namespace parse_spec
noncomputable def s : Shared := cst.2.2.2.1
noncomputable def t : Tok := cst.2.2.2.2.2.2.2.2.2.2.2.1
noncomputable def p : Addr := cst.2.2.2.2.2.2.2.2.2.2.2.2.2.1
noncomputable def L' : Addr := s.heap.objs.size
theorem it : Stm cst.1 cst.2.1 cst.2.2.1 s cst.2.2.2.2.1 cst.2.2.2.2.2.1 cst.2.2.2.2.2.2.1 cst.2.2.2.2.2.2.2.1 cst.2.2.2.2.2.2.2.2.1 cst.2.2.2.2.2.2.2.2.2.1 cst.2.2.2.2.2.2.2.2.2.2.1 t cst.2.2.2.2.2.2.2.2.2.2.2.2.1 p cst.2.2.2.2.2.2.2.2.2.2.2.2.2.2 := by
  intro x B X T hh hd hu hx ha hp err ret
  have hfill : (fun (_ : OpenLaw) (_ : Params → Frag) => True) PySem.Challenge.rw_nq0040_01 Mine.KC := by (k_fill; trivial)
  clear hfill
  w_top off
  have ff := find_open x
  k_dflt (refine' enterC0 (L := L') rfl (binds := [(Str.ofString "resp", .str x t), (Str.ofString "peer", .ref p)]) ?k1 ?k2 ?k3 ?k6 ?k7 ?k8 ?k9 ?kB ?_ ?c2 ?c3 ?c4 ?c5; (case k1 => assumption); (case k2 => assumption); (case k3 => assumption); (case k6 => k_is); (case k7 => k_is); (case k8 => omega); (case k9 => first | exact BindsTo.of_eq rfl | exact binds_K (by assumption) rfl (by k_is) rfl rfl rfl); (case c5 => decide); (case kB => exact locs rfl); (case c2 => exact rfl); (case c3 => exact rfl); (case c4 => exact rfl); k_whole)
  intro h' F' N'
  try dsimp only
  refine wpC_execs_at 9 ?_
  dsimp only [List.take, List.drop]
  k_fold
  repeat' (first | ((with_reducible show wpAny _ _ (leaving _ (Value.ref _)) _ _ _); (refine' leave_raiseS ?k1 ?k0 ?k2 ?k3 ?_; (case k0 => first | assumption | exact Heap.MadeExc.of (by assumption)); (case k1 => assumption); (case k2 => assumption); (case k3 => k_asm); k_whole; intro _ _; intro R' R2' U'; clear R2'; (try dsimp only at R' U' ⊢); revert R' U'; intro _ _)) | walk_at "k1")
  · refine err _ _ _ _ _ _ ?_ (RaisedS.drop ‹_›) ‹_›
    unfold ParseErr; rw [pf_reply (by assumption)]; exact ⟨rfl, rfl⟩
  · refine err _ _ _ _ _ _ ?_ (RaisedS.drop ‹_›) ‹_›
    unfold ParseErr; rw [pf_nope (by assumption) (by assumption)]; exact ⟨rfl, rfl⟩
  · refine err _ _ _ _ _ _ ?_ (RaisedS.drop ‹_›) ‹_›
    unfold ParseErr; rw [pf_nope2 (by assumption) (by assumption) (by assumption)]; exact ⟨rfl, rfl⟩
  · refine err _ _ _ _ _ _ ?_ (RaisedS.drop ‹_›) ‹_›
    unfold ParseErr; rw [pf_in (by assumption) (by assumption) (by assumption), pi_ne (by assumption)]; exact ⟨rfl, rfl⟩
  · refine err _ _ _ _ _ _ ?_ (RaisedS.drop ‹_›) ‹_›
    unfold ParseErr; rw [pf_in (by assumption) (by assumption) (by assumption), pi_len (by assumption) (by assumption) (by rw [List.length_map]; omega)]; exact ⟨rfl, rfl⟩
  · refine wpC_execs_cons (wpC_Assign_Name (wpC_Call_Name ?_) rfl)
    repeat' (first | ((with_reducible show wpAny _ _ (leaving _ (Value.ref _)) _ _ _); (refine' leave_raiseS ?k1 ?k0 ?k2 ?k3 ?_; (case k0 => first | assumption | exact Heap.MadeExc.of (by assumption)); (case k1 => assumption); (case k2 => assumption); (case k3 => k_asm); k_whole; intro _ _; intro R' R2' U'; clear R2'; (try dsimp only at R' U' ⊢); revert R' U'; intro _ _)) | walk_at "k1")
    refine wpC_callWith1 ?_ rfl rfl
    repeat' (first | ((with_reducible show wpAny _ _ (leaving _ (Value.ref _)) _ _ _); (refine' leave_raiseS ?k1 ?k0 ?k2 ?k3 ?_; (case k0 => first | assumption | exact Heap.MadeExc.of (by assumption)); (case k1 => assumption); (case k2 => assumption); (case k3 => k_asm); k_whole; intro _ _; intro R' R2' U'; clear R2'; (try dsimp only at R' U' ⊢); revert R' U'; intro _ _)) | walk_at "k1")
    · exact kept_type
    · obtain ⟨hg, hm⟩ := getD_of (by assumption)
      have hlen : _ := (by assumption : ∀ (a : Str), a ∈ _ → a.length ≤ _) _ hm
      have hlook := (by assumption : _ = Txt.split _ _)
      have hasc : Asc _ := Asc.split (Asc.slice ha _ _) (by rw [← hlook]; exact hm)
      have hend := (pf_in (by assumption) (by assumption) (by assumption)).trans (pi_end (by assumption) hlook (by rw [List.length_map]; omega))
      rw [show (3 : Nat) = Int.toNat 3 from rfl, hg] at hend
      cases hn : PySem.intText? _ with
      | none =>
        rw [hn] at hend
        refine int_no hh hn (by omega) hasc.small ?_
        intro h₁ e m tk₁ tk₂ hx
        repeat' (first | ((with_reducible show wpAny _ _ (leaving _ (Value.ref _)) _ _ _); (refine' leave_raiseS ?k1 ?k0 ?k2 ?k3 ?_; (case k0 => first | assumption | exact Heap.MadeExc.of (by assumption)); (case k1 => assumption); (case k2 => assumption); (case k3 => k_asm); k_whole; intro _ _; intro R' R2' U'; clear R2'; (try dsimp only at R' U' ⊢); revert R' U'; intro _ _)) | walk_at "k1")
        refine err _ _ _ _ _ _ ?_ (RaisedS.drop ‹_›) ‹_›
        unfold ParseErr; rw [hend]; exact ⟨rfl, _, _, rfl⟩
      | some n =>
        rw [hn] at hend
        refine wpC_any (KIN.call_text hn (by omega) ?_)
        repeat' (first | ((with_reducible show wpAny _ _ (leaving _ (Value.ref _)) _ _ _); (refine' leave_raiseS ?k1 ?k0 ?k2 ?k3 ?_; (case k0 => first | assumption | exact Heap.MadeExc.of (by assumption)); (case k1 => assumption); (case k2 => assumption); (case k3 => k_asm); k_whole; intro _ _; intro R' R2' U'; clear R2'; (try dsimp only at R' U' ⊢); revert R' U'; intro _ _)) | walk_at "k1")
        refine wpC_any ?_
        repeat' (first | ((with_reducible show wpAny _ _ (leaving _ (Value.ref _)) _ _ _); (refine' leave_raiseS ?k1 ?k0 ?k2 ?k3 ?_; (case k0 => first | assumption | exact Heap.MadeExc.of (by assumption)); (case k1 => assumption); (case k2 => assumption); (case k3 => k_asm); k_whole; intro _ _; intro R' R2' U'; clear R2'; (try dsimp only at R' U' ⊢); revert R' U'; intro _ _)) | walk_at "k1")
        refine' ret n _ _ _ _ hend ?ea ?eb ?ec
        case ec => exact News.get (by assumption) (.head _)
        case ea => exact Fr.keep (by assumption)
        case eb => exact News.fresh (by assumption) (.head _)
end parse_spec
theorem parse_spec {w : World} {A : Around} {E : Value → Shared → Prop} {s : Shared} {base : Heap} {mg : Str → Option Value} {mb : Str → Option Value} {mean : ExcName → Option Value} {Q : Value → Shared → Prop} {outer : List Env} {hs : Str} {t : Tok} {th : Tok} {p : Addr} {pv : Value} {x : Str}
   (B : Below A base outer s.heap) (X : (Mine.KC w.params).In s.heap) (T : Top EMP LS mean mg mb s.heap) (hh : A.handled = none) (hd : A.depth + 1 < recursionLimit) (hu : A.units + 8 < cLine) (hx : x.length ≤ 500) (ha : Asc x) (hp : IsTup s.heap p #[.str hs th, pv]) (err : ∀ e C t' vs h' tk, ParseErr x t C vs → RaisedS base s.heap outer e C t' vs [] h' → s.heap.UpToSlots h' → E (.ref e) { s with heap := h', toks := tk }) (ret : ∀ n a tn h' tk, parseF x = .ok n → Kp s.heap h' → s.heap.get? a = none → h'.get? a = some (pairObj hs th n tn) → Q (.ref a) { s with heap := h', toks := tk }) : wpC (model PROG w) A (call (.ref 58) [.str x t, .ref p]) Q E s :=
  (eps_at (G := fun q => parse_spec.Stm q.1 q.2.1 q.2.2.1 q.2.2.2.1 q.2.2.2.2.1 q.2.2.2.2.2.1 q.2.2.2.2.2.2.1 q.2.2.2.2.2.2.2.1 q.2.2.2.2.2.2.2.2.1 q.2.2.2.2.2.2.2.2.2.1 q.2.2.2.2.2.2.2.2.2.2.1 q.2.2.2.2.2.2.2.2.2.2.2.1 q.2.2.2.2.2.2.2.2.2.2.2.2.1 q.2.2.2.2.2.2.2.2.2.2.2.2.2.1 q.2.2.2.2.2.2.2.2.2.2.2.2.2.2) (c := parse_spec.cst) rfl parse_spec.it (w, A, E, s, base, mg, mb, mean, Q, outer, hs, t, th, p, pv) : parse_spec.Stm w A E s base mg mb mean Q outer hs t th p pv) x B X T hh hd hu hx ha hp err ret
end Mine
end

section
namespace Mine
set_option maxRecDepth 100000
set_option maxHeartbeats 800000
set_option linter.all false
structure Counted (n : Int) (x y : Str) : Prop where
  it : n = Txt.count x y
theorem count_op {prog : Program} {w : World} {A : Around} {E : Value → Shared → Prop} {s : Shared} {Q : Value → Shared → Prop} {x y : Str} {t u : Tok} (h : ∀ n, Counted n x y → Q (.int n s.toks) { s with toks := s.toks + 1 }) : wpAny (model prog w) A (call (.builtin "str.count") [.str x t, .str y u]) Q E s := SC.count (h _ ⟨rfl⟩)
noncomputable abbrev readMap (x hs I C R : Str) (t th ti tc tr : Tok) : Str → Option Value := fun y =>
  if y = Str.ofString "rest" then some (.str R tr) else if y = Str.ofString "closing" then some (.str C tc) else if y = Str.ofString "inside" then some (.str I ti) else
  List.lookup y [(Str.ofString "reply", Value.str x t), (Str.ofString "host", Value.str hs th)].reverse
noncomputable def ReadVal (r : Rd) (hs : Str) (th : Tok) (h h' : Heap) (v : Value) : Prop := match r with
  | .reply => ∃ t, v = .str (Str.ofString "reply") t
  | .proto => ∃ t, v = .str (Str.ofString "proto") t
  | .value => ∃ t, v = .str (Str.ofString "value") t
  | .ok n => ∃ a tn, v = .ref a ∧ h.get? a = none ∧ h'.get? a = some (pairObj hs th n tn)
noncomputable def read_spec.Stm (w : World) (A : Around) (E : Value → Shared → Prop) (s : Shared) (base : Heap) (mg : Str → Option Value) (mb : Str → Option Value) (mean : ExcName → Option Value) (Q : Value → Shared → Prop) (outer : List Env) (x : Str) (hs : Str) (t : Tok) (th : Tok) : Prop := ∀  (B : Below A base outer s.heap) (X : (Mine.KC w.params).In s.heap) (T : Top EMP LS mean mg mb s.heap) (hh : A.handled = none) (hd : A.depth + 2 < recursionLimit) (hx : x.length ≤ 500) (ha : Asc x) (ret : ∀ v h' tk, Kp s.heap h' → ReadVal (readF x) hs th s.heap h' v → Q v { s with heap := h', toks := tk }), wpAny (model PROG w) A (call (.ref 136) [.str x t, .str hs th]) Q E s
noncomputable def read_spec.cst : (World) × (Around) × (Value → Shared → Prop) × (Shared) × (Heap) × (Str → Option Value) × (Str → Option Value) × (ExcName → Option Value) × (Value → Shared → Prop) × (List Env) × (Str) × (Str) × (Tok) × (Tok) := eps (aWorld 0, {}, fun _ _ => True, {}, {}, fun _ => none, fun _ => none, fun _ => none, fun _ _ => True, [], Str.empty, Str.empty, 0, 0) (fun q => read_spec.Stm q.1 q.2.1 q.2.2.1 q.2.2.2.1 q.2.2.2.2.1 q.2.2.2.2.2.1 q.2.2.2.2.2.2.1 q.2.2.2.2.2.2.2.1 q.2.2.2.2.2.2.2.2.1 q.2.2.2.2.2.2.2.2.2.1 q.2.2.2.2.2.2.2.2.2.2.1 q.2.2.2.2.2.2.2.2.2.2.2.1 q.2.2.2.2.2.2.2.2.2.2.2.2.1 q.2.2.2.2.2.2.2.2.2.2.2.2.2)
namespace read_spec
noncomputable def A : Around := cst.2.1
noncomputable def s : Shared := cst.2.2.2.1
noncomputable def x : Str := cst.2.2.2.2.2.2.2.2.2.2.1
noncomputable def hs : Str := cst.2.2.2.2.2.2.2.2.2.2.2.1
noncomputable def t : Tok := cst.2.2.2.2.2.2.2.2.2.2.2.2.1
noncomputable def th : Tok := cst.2.2.2.2.2.2.2.2.2.2.2.2.2
noncomputable def L' : Addr := s.heap.objs.size
theorem it : Stm cst.1 A cst.2.2.1 s cst.2.2.2.2.1 cst.2.2.2.2.2.1 cst.2.2.2.2.2.2.1 cst.2.2.2.2.2.2.2.1 cst.2.2.2.2.2.2.2.2.1 cst.2.2.2.2.2.2.2.2.2.1 x hs t th := by
  intro  B X T hh hd hx ha ret
  have hfill : (fun (_ : OpenLaw) (_ : Params → Frag) => True) PySem.Challenge.rw_nq0040_01 Mine.KC := by (k_fill; trivial)
  clear hfill
  w_top off
  k_dflt (refine' enterP0 (L := L') rfl (binds := [(Str.ofString "reply", .str x t), (Str.ofString "host", .str hs th)]) ?k1 ?k2 ?k3 ?k6 ?k7 ?k8 ?k9 ?kB ?_ ?c2 ?c3 ?c4 ?c5; (case k1 => assumption); (case k2 => assumption); (case k3 => assumption); (case k6 => k_is); (case k7 => k_is); (case k8 => omega); (case k9 => first | exact BindsTo.of_eq rfl | exact binds_K (by assumption) rfl (by k_is) rfl rfl rfl); (case c5 => decide); (case kB => exact locs rfl); (case c2 => exact rfl); (case c3 => exact rfl); (case c4 => exact rfl); k_whole)
  intro h' F' N'
  try dsimp only
  k_fold
  refine block_or 2 (fun s' => (insOf x).length ≤ 500 ∧ (Txt.slice x none (some 3) != Str.ofString "229") = false ∧ ∃ h tk ti tc tr, s' = { s with heap := h, toks := tk } ∧ Fr s.heap L' h (readMap x hs (insOf x) (cloOf x) (rstOf x) t th ti tc tr)) ?_ ?_
  · dsimp only [List.take]
    repeat' (first | ((with_reducible show wpAny _ _ (assign (Expr.Tuple _ _ _) _ (Value.ref _)) _ _ _); k_dflt (refine' unpackN_ ?k1 ?k2 ?k3 ?k4 ?k5 ?k6 ?_; (case k1 => k_asm); (case k2 => k_asm); (case k3 => kun_tup); (case k4 => assumption); (case k5 => exact rfl); (case k6 => exact rfl); k_whole); intro _ _ _; (try k_sweep)) | ((with_reducible show wpAny _ _ (call (Value.builtin "str.count") _ _) _ _ _); refine count_op ?_; intro _ _; try dsimp only) | walk_at "k1")
    · dsimp only
      refine ret _ _ _ (Fr.keep (by assumption)) ?_
      unfold ReadVal readF; rw [if_pos (by assumption)]; exact ⟨_, rfl⟩
    · rename_i h9 F9 N9
      dsimp only
      refine' ⟨?_, ?_, _, _, _, _, _, rfl, Fr.as F9 ?e⟩
      case e => unfold insOf cloOf rstOf; (funext zz; by_cases hz0 : zz = PySem.Str.ofString "rest"; (focus (subst hz0; rfl)); by_cases hz1 : zz = PySem.Str.ofString "closing"; (focus (subst hz1; rfl)); by_cases hz2 : zz = PySem.Str.ofString "inside"; (focus (subst hz2; rfl)); (try dsimp only); (try simp only [if_neg hz0]); (try simp only [if_neg hz1]); (try simp only [if_neg hz2]); (try rfl))
      · have := ins_len x; omega
      · assumption
  · rintro s' ⟨hlen, h229, h1, tk1, ti, tc, tr, rfl, F1⟩
    have N1 : News s.heap L' h1 [] := News.nil
    have hia := ha.ins
    unfold readF at ret
    rw [if_neg (by rw [h229]; exact Bool.false_ne_true)] at ret
    generalize insOf x = I at *
    generalize cloOf x = C at *
    generalize rstOf x = R at *
    dsimp only [List.drop]
    refine block_or 1 (fun s' => ((C == Str.ofString "") = false ∧ (I == Str.ofString "") = false ∧ Txt.count I (Txt.item I 0) = 4 ∧ (Txt.item I (-1) != Txt.item I 0) = false) ∧ ∃ tk, s' = { s with heap := h1, toks := tk }) ?_ ?_
    · dsimp only [List.take]
      repeat' (first | ((with_reducible show wpAny _ _ (assign (Expr.Tuple _ _ _) _ (Value.ref _)) _ _ _); k_dflt (refine' unpackN_ ?k1 ?k2 ?k3 ?k4 ?k5 ?k6 ?_; (case k1 => k_asm); (case k2 => k_asm); (case k3 => kun_tup); (case k4 => assumption); (case k5 => exact rfl); (case k6 => exact rfl); k_whole); intro _ _ _; (try k_sweep)) | ((with_reducible show wpAny _ _ (call (Value.builtin "str.count") _ _) _ _ _); refine count_op ?_; intro _ _; try dsimp only) | walk_at "m1")
      · dsimp only
        refine ret _ _ _ F1.keep ?_
        unfold readIn; rw [if_pos (by assumption)]; exact ⟨_, rfl⟩
      · dsimp only
        refine ret _ _ _ F1.keep ?_
        unfold readIn; rw [if_neg (by simp_all), if_pos (by assumption)]; exact ⟨_, rfl⟩
      · dsimp only
        refine ret _ _ _ F1.keep ?_
        unfold readIn; rw [if_neg (by simp_all), if_neg (by simp_all), if_pos (by rw [← Counted.it (by assumption)]; assumption)]; exact ⟨_, rfl⟩
      · dsimp only
        refine ret _ _ _ F1.keep ?_
        unfold readIn; rw [if_neg (by simp_all), if_neg (by simp_all), if_neg (by rw [← Counted.it (by assumption)]; simp_all), if_pos (by assumption)]; exact ⟨_, rfl⟩
      · exact ⟨⟨by assumption, by assumption, by rw [← Counted.it (by assumption)]; assumption, by assumption⟩, _, rfl⟩
    · rintro s' ⟨⟨hC, hI, hcnt, hit⟩, tk2, rfl⟩
      dsimp only [List.drop]
      have er : readIn C I = match numF (numPart I) with | none => .value | some n => .ok n := by
        unfold readIn
        rw [if_neg (by rw [hC]; exact Bool.false_ne_true), if_neg (by rw [hI]; exact Bool.false_ne_true), if_neg (by rw [hcnt]; exact fun h => h rfl), if_neg (by rw [hit]; exact Bool.false_ne_true)]
        all_goals (generalize numF (numPart I) = q; cases q <;> rfl)
      rw [er] at ret
      repeat' (first | ((with_reducible show wpAny _ _ (assign (Expr.Tuple _ _ _) _ (Value.ref _)) _ _ _); k_dflt (refine' unpackN_ ?k1 ?k2 ?k3 ?k4 ?k5 ?k6 ?_; (case k1 => k_asm); (case k2 => k_asm); (case k3 => kun_tup); (case k4 => assumption); (case k5 => exact rfl); (case k6 => exact rfl); k_whole); intro _ _ _; (try k_sweep)) | ((with_reducible show wpAny _ _ (call (Value.builtin "str.count") _ _) _ _ _); refine count_op ?_; intro _ _; try dsimp only) | walk_at "m1")
      rename_i hslen F3 N3
      have hl : (numPart I).length ≤ 500 := by have := @numPart_len I; omega
      refine number_spec (x := numPart I) (B.push F3) (X.keeps F3.keep) (T.keeps F3.keep) hh ?_ hl hia.num ?_
      · show A.depth + 1 + 1 < recursionLimit; omega
      · intro v h4 tk4 hk hv
        have F4 := F3.keeps hk
        have N4 := N3.grown hk
        dsimp only at F4 N4 ⊢
        unfold NumVal at hv
        generalize numF (numPart I) = nf at hv ret
        clear N3 F3
        cases nf with
        | none =>
          dsimp only at hv ret
          subst hv
          repeat' (first | ((with_reducible show wpAny _ _ (assign (Expr.Tuple _ _ _) _ (Value.ref _)) _ _ _); k_dflt (refine' unpackN_ ?k1 ?k2 ?k3 ?k4 ?k5 ?k6 ?_; (case k1 => k_asm); (case k2 => k_asm); (case k3 => kun_tup); (case k4 => assumption); (case k5 => exact rfl); (case k6 => exact rfl); k_whole); intro _ _ _; (try k_sweep)) | ((with_reducible show wpAny _ _ (call (Value.builtin "str.count") _ _) _ _ _); refine count_op ?_; intro _ _; try dsimp only) | walk_at "m1")
          dsimp only
          refine ret _ _ _ (Fr.keep (by assumption)) ?_
          exact ⟨_, rfl⟩
        | some n =>
          dsimp only at hv ret
          obtain ⟨tn, rfl⟩ := hv
          repeat' (first | ((with_reducible show wpAny _ _ (assign (Expr.Tuple _ _ _) _ (Value.ref _)) _ _ _); k_dflt (refine' unpackN_ ?k1 ?k2 ?k3 ?k4 ?k5 ?k6 ?_; (case k1 => k_asm); (case k2 => k_asm); (case k3 => kun_tup); (case k4 => assumption); (case k5 => exact rfl); (case k6 => exact rfl); k_whole); intro _ _ _; (try k_sweep)) | ((with_reducible show wpAny _ _ (call (Value.builtin "str.count") _ _) _ _ _); refine count_op ?_; intro _ _; try dsimp only) | walk_at "m1")
          refine ret _ _ _ (Fr.keep (by assumption)) ?_
          exact ⟨_, _, rfl, News.fresh (by assumption) (.head _), News.get (by assumption) (.head _)⟩
end read_spec
theorem read_spec {w : World} {A : Around} {E : Value → Shared → Prop} {s : Shared} {base : Heap} {mg : Str → Option Value} {mb : Str → Option Value} {mean : ExcName → Option Value} {Q : Value → Shared → Prop} {outer : List Env} {x : Str} {hs : Str} {t : Tok} {th : Tok} 
   (B : Below A base outer s.heap) (X : (Mine.KC w.params).In s.heap) (T : Top EMP LS mean mg mb s.heap) (hh : A.handled = none) (hd : A.depth + 2 < recursionLimit) (hx : x.length ≤ 500) (ha : Asc x) (ret : ∀ v h' tk, Kp s.heap h' → ReadVal (readF x) hs th s.heap h' v → Q v { s with heap := h', toks := tk }) : wpAny (model PROG w) A (call (.ref 136) [.str x t, .str hs th]) Q E s :=
  (eps_at (G := fun q => read_spec.Stm q.1 q.2.1 q.2.2.1 q.2.2.2.1 q.2.2.2.2.1 q.2.2.2.2.2.1 q.2.2.2.2.2.2.1 q.2.2.2.2.2.2.2.1 q.2.2.2.2.2.2.2.2.1 q.2.2.2.2.2.2.2.2.2.1 q.2.2.2.2.2.2.2.2.2.2.1 q.2.2.2.2.2.2.2.2.2.2.2.1 q.2.2.2.2.2.2.2.2.2.2.2.2.1 q.2.2.2.2.2.2.2.2.2.2.2.2.2) (c := read_spec.cst) rfl read_spec.it (w, A, E, s, base, mg, mb, mean, Q, outer, x, hs, t, th) : read_spec.Stm w A E s base mg mb mean Q outer x hs t th)  B X T hh hd hx ha ret
end Mine
end

section
namespace Mine
set_option maxRecDepth 100000
set_option maxHeartbeats 8000000
noncomputable def parse_ok.Stm (w : World) (A : Around) (E : Value → Shared → Prop) (s : Shared) (base : Heap) (mg : Str → Option Value) (mb : Str → Option Value) (mean : ExcName → Option Value) (Q : Value → Shared → Prop) (outer : List Env) (hs : Str) (t : Tok) (th : Tok) (p : Addr) (vs : Array Value) (n : Int) : Prop := ∀ (x : Str) (B : Below A base outer s.heap) (X : (Mine.KC w.params).In s.heap) (T : Top EMP LS mean mg mb s.heap) (hh : A.handled = none) (hd : A.depth + 1 < recursionLimit) (hx : x.length ≤ 500) (hn : parseF x = .ok n) (hp : IsTup s.heap p vs) (hv : vs[0]? = some (.str hs th)) (hz : seqIndex? 0 vs.size = some 0) (ret : ∀ a tn h' tk, Kp s.heap h' → s.heap.get? a = none → h'.get? a = some (pairObj hs th n tn) → Q (.ref a) { s with heap := h', toks := tk }), wpAny (model PROG w) A (call (.ref 58) [.str x t, .ref p]) Q E s
noncomputable def parse_ok.cst : (World) × (Around) × (Value → Shared → Prop) × (Shared) × (Heap) × (Str → Option Value) × (Str → Option Value) × (ExcName → Option Value) × (Value → Shared → Prop) × (List Env) × (Str) × (Tok) × (Tok) × (Addr) × (Array Value) × (Int) := eps (aWorld 0, {}, fun _ _ => True, {}, {}, fun _ => none, fun _ => none, fun _ => none, fun _ _ => True, [], Str.empty, 0, 0, 0, #[], 0) (fun q => parse_ok.Stm q.1 q.2.1 q.2.2.1 q.2.2.2.1 q.2.2.2.2.1 q.2.2.2.2.2.1 q.2.2.2.2.2.2.1 q.2.2.2.2.2.2.2.1 q.2.2.2.2.2.2.2.2.1 q.2.2.2.2.2.2.2.2.2.1 q.2.2.2.2.2.2.2.2.2.2.1 q.2.2.2.2.2.2.2.2.2.2.2.1 q.2.2.2.2.2.2.2.2.2.2.2.2.1 q.2.2.2.2.2.2.2.2.2.2.2.2.2.1 q.2.2.2.2.2.2.2.2.2.2.2.2.2.2.1 q.2.2.2.2.2.2.2.2.2.2.2.2.2.2.2)
namespace parse_ok
noncomputable def s : Shared := cst.2.2.2.1
noncomputable def t : Tok := cst.2.2.2.2.2.2.2.2.2.2.2.1
noncomputable def p : Addr := cst.2.2.2.2.2.2.2.2.2.2.2.2.2.1
noncomputable def n : Int := cst.2.2.2.2.2.2.2.2.2.2.2.2.2.2.2
noncomputable def L' : Addr := s.heap.objs.size
theorem it : Stm cst.1 cst.2.1 cst.2.2.1 s cst.2.2.2.2.1 cst.2.2.2.2.2.1 cst.2.2.2.2.2.2.1 cst.2.2.2.2.2.2.2.1 cst.2.2.2.2.2.2.2.2.1 cst.2.2.2.2.2.2.2.2.2.1 cst.2.2.2.2.2.2.2.2.2.2.1 t cst.2.2.2.2.2.2.2.2.2.2.2.2.1 p cst.2.2.2.2.2.2.2.2.2.2.2.2.2.2.1 n := by
  intro x B X T hh hd hx hn hp hv hz ret
  have hfill : (fun (_ : OpenLaw) (_ : Params → Frag) => True) PySem.Challenge.rw_nq0040_01 Mine.KC := by (k_fill; trivial)
  clear hfill
  w_top off
  have ff := find_open x
  k_dflt (refine' enterP0 (L := L') rfl (binds := [(Str.ofString "resp", .str x t), (Str.ofString "peer", .ref p)]) ?k1 ?k2 ?k3 ?k6 ?k7 ?k8 ?k9 ?kB ?_ ?c2 ?c3 ?c4 ?c5; (case k1 => assumption); (case k2 => assumption); (case k3 => assumption); (case k6 => k_is); (case k7 => k_is); (case k8 => omega); (case k9 => first | exact BindsTo.of_eq rfl | exact binds_K (by assumption) rfl (by k_is) rfl rfl rfl); (case c5 => decide); (case kB => exact locs rfl); (case c2 => exact rfl); (case c3 => exact rfl); (case c4 => exact rfl); k_whole)
  intro h' F' N'
  try dsimp only
  k_fold
  repeat' (first | ((with_reducible show wpAny _ _ (leaving _ (Value.ref _)) _ _ _); (refine' leave_raiseS ?k1 ?k0 ?k2 ?k3 ?_; (case k0 => first | assumption | exact Heap.MadeExc.of (by assumption)); (case k1 => assumption); (case k2 => assumption); (case k3 => k_asm); k_whole; intro _ _; intro R' R2' U'; clear R2'; (try dsimp only at R' U' ⊢); revert R' U'; intro _ _)) | walk_at "k1")
  all_goals try (refine item_tuple (j := 0) (let ⟨o, h1, h2⟩ := hp; ⟨o, Fr.keep (by assumption) _ _ h1, h2⟩) (by decide) (by decide) hz hv ?_)
  repeat' (first | ((with_reducible show wpAny _ _ (leaving _ (Value.ref _)) _ _ _); (refine' leave_raiseS ?k1 ?k0 ?k2 ?k3 ?_; (case k0 => first | assumption | exact Heap.MadeExc.of (by assumption)); (case k1 => assumption); (case k2 => assumption); (case k3 => k_asm); k_whole; intro _ _; intro R' R2' U'; clear R2'; (try dsimp only at R' U' ⊢); revert R' U'; intro _ _)) | walk_at "k1")
  · exact absurd (pf_reply (by assumption) ▸ hn) (by simp)
  · exact absurd (pf_nope (by assumption) (by assumption) ▸ hn) (by simp)
  · exact absurd (pf_nope2 (by assumption) (by assumption) (by assumption) ▸ hn) (by simp)
  · rw [pf_in (by assumption) (by assumption) (by assumption), pi_ne (by assumption)] at hn; exact absurd hn (by simp)
  · rw [pf_in (by assumption) (by assumption) (by assumption), pi_len (by assumption) (by assumption) (by rw [List.length_map]; omega)] at hn; exact absurd hn (by simp)
  · obtain ⟨hg, hm⟩ := getD_of (by assumption)
    have hlen : _ := (by assumption : ∀ (a : Str), a ∈ _ → a.length ≤ _) _ hm
    have hlook := (by assumption : _ = Txt.split _ _)
    rw [pf_in (by assumption) (by assumption) (by assumption), pi_end (by assumption) hlook (by rw [List.length_map]; omega)] at hn
    rw [show (3 : Nat) = Int.toNat 3 from rfl, hg] at hn
    cases hk : PySem.intText? _ with
    | none => rw [hk] at hn; exact absurd hn (by simp)
    | some m =>
      rw [hk] at hn
      obtain rfl : m = n := by injection hn
      refine KIN.call_text hk (by omega) ?_
      repeat' (first | ((with_reducible show wpAny _ _ (leaving _ (Value.ref _)) _ _ _); (refine' leave_raiseS ?k1 ?k0 ?k2 ?k3 ?_; (case k0 => first | assumption | exact Heap.MadeExc.of (by assumption)); (case k1 => assumption); (case k2 => assumption); (case k3 => k_asm); k_whole; intro _ _; intro R' R2' U'; clear R2'; (try dsimp only at R' U' ⊢); revert R' U'; intro _ _)) | walk_at "k1")
      refine' ret _ _ _ _ ?ea ?eb ?ec
      case ec => exact News.get (by assumption) (.head _)
      case ea => exact Fr.keep (by assumption)
      case eb => exact News.fresh (by assumption) (.head _)
end parse_ok
theorem parse_ok {w : World} {A : Around} {E : Value → Shared → Prop} {s : Shared} {base : Heap} {mg : Str → Option Value} {mb : Str → Option Value} {mean : ExcName → Option Value} {Q : Value → Shared → Prop} {outer : List Env} {hs : Str} {t : Tok} {th : Tok} {p : Addr} {vs : Array Value} {n : Int} {x : Str}
   (B : Below A base outer s.heap) (X : (Mine.KC w.params).In s.heap) (T : Top EMP LS mean mg mb s.heap) (hh : A.handled = none) (hd : A.depth + 1 < recursionLimit) (hx : x.length ≤ 500) (hn : parseF x = .ok n) (hp : IsTup s.heap p vs) (hv : vs[0]? = some (.str hs th)) (hz : seqIndex? 0 vs.size = some 0) (ret : ∀ a tn h' tk, Kp s.heap h' → s.heap.get? a = none → h'.get? a = some (pairObj hs th n tn) → Q (.ref a) { s with heap := h', toks := tk }) : wpAny (model PROG w) A (call (.ref 58) [.str x t, .ref p]) Q E s :=
  (eps_at (G := fun q => parse_ok.Stm q.1 q.2.1 q.2.2.1 q.2.2.2.1 q.2.2.2.2.1 q.2.2.2.2.2.1 q.2.2.2.2.2.2.1 q.2.2.2.2.2.2.2.1 q.2.2.2.2.2.2.2.2.1 q.2.2.2.2.2.2.2.2.2.1 q.2.2.2.2.2.2.2.2.2.2.1 q.2.2.2.2.2.2.2.2.2.2.2.1 q.2.2.2.2.2.2.2.2.2.2.2.2.1 q.2.2.2.2.2.2.2.2.2.2.2.2.2.1 q.2.2.2.2.2.2.2.2.2.2.2.2.2.2.1 q.2.2.2.2.2.2.2.2.2.2.2.2.2.2.2) (c := parse_ok.cst) rfl parse_ok.it (w, A, E, s, base, mg, mb, mean, Q, outer, hs, t, th, p, vs, n) : parse_ok.Stm w A E s base mg mb mean Q outer hs t th p vs n) x B X T hh hd hx hn hp hv hz ret
theorem parse_ok2 {w : World} {A : Around} {E : Value → Shared → Prop} {s : Shared} {base : Heap} {mg mb : Str → Option Value} {mean : ExcName → Option Value} {Q : Value → Shared → Prop} {outer : List Env} {x hs : Str} {t th : Tok} {p : Addr} {pv : Value} {n : Int}
   (B : Below A base outer s.heap) (X : (Mine.KC w.params).In s.heap) (T : Top EMP LS mean mg mb s.heap) (hh : A.handled = none) (hd : A.depth + 1 < recursionLimit) (hx : x.length ≤ 500)
   (hn : parseF x = .ok n)
   (hp : IsTup s.heap p #[.str hs th, pv])
   (ret : ∀ a tn h' tk, Kp s.heap h' → s.heap.get? a = none → h'.get? a = some (pairObj hs th n tn) → Q (.ref a) { s with heap := h', toks := tk }) : wpAny (model PROG w) A (call (.ref 58) [.str x t, .ref p]) Q E s :=
  parse_ok B X T hh hd hx hn hp rfl rfl ret
theorem parse_ok1 {w : World} {A : Around} {E : Value → Shared → Prop} {s : Shared} {base : Heap} {mg mb : Str → Option Value} {mean : ExcName → Option Value} {Q : Value → Shared → Prop} {outer : List Env} {x hs : Str} {t th : Tok} {p : Addr} {n : Int}
   (B : Below A base outer s.heap) (X : (Mine.KC w.params).In s.heap) (T : Top EMP LS mean mg mb s.heap) (hh : A.handled = none) (hd : A.depth + 1 < recursionLimit) (hx : x.length ≤ 500)
   (hn : parseF x = .ok n)
   (hp : IsTup s.heap p #[.str hs th])
   (ret : ∀ a tn h' tk, Kp s.heap h' → s.heap.get? a = none → h'.get? a = some (pairObj hs th n tn) → Q (.ref a) { s with heap := h', toks := tk }) : wpAny (model PROG w) A (call (.ref 58) [.str x t, .ref p]) Q E s :=
  parse_ok B X T hh hd hx hn hp rfl rfl ret
end Mine
end

section
open PySem.NumText
namespace Mine
noncomputable def gF : List Nat → Bool → Int → Option Int
  | [], fl, a => if fl = true then some a else none
  | c :: cs, fl, a => if c = 95 then (if fl = true then gF cs false a else none) else if 48 ≤ c ∧ c ≤ 57 then gF cs true (a * 10 + ((c : Int) - 48)) else none
noncomputable def dval (ds : Array Nat) : Int := ((ds.foldl (fun acc d => acc * 10 + d) 0 : Nat) : Int)
theorem dval_push (ds : Array Nat) (d : Nat) : dval (ds.push d) = dval ds * 10 + d := by
  unfold dval; simp
theorem step_cases (ds : Array Nat) (fl : Bool) (c : Nat) : NumText.step 10 (ds, fl) c = if c = 95 then (if fl = true then some (ds, false) else none) else if 48 ≤ c ∧ c ≤ 57 then some (ds.push (c - 48), true) else none := by
  unfold NumText.step
  by_cases h : c = 95
  · subst h; simp
  · rw [if_neg (by simpa using h), if_neg h]
    by_cases hd : 48 ≤ c ∧ c ≤ 57
    · rw [digit_of hd, if_pos hd]; simp only; rw [if_pos (by omega)]
    · rw [if_neg hd]
      unfold digit?
      rw [if_neg (by simpa using hd)]
      by_cases h1 : 97 ≤ c ∧ c ≤ 122
      · rw [if_pos (by simpa using h1)]; simp only; rw [if_neg (by omega)]
      · rw [if_neg (by simpa using h1)]
        by_cases h2 : 65 ≤ c ∧ c ≤ 90
        · rw [if_pos (by simpa using h2)]; simp only; rw [if_neg (by omega)]
        · rw [if_neg (by simpa using h2)]
theorem run_gF : ∀ (cs : List Nat) (ds : Array Nat) (fl : Bool), ((cs.foldlM (NumText.step 10) (ds, fl)).bind fun p => if p.2 = true then some p.1 else none).map dval = gF cs fl (dval ds)
  | [], ds, fl => by
    show ((some (ds, fl)).bind _).map dval = _
    unfold gF; cases fl <;> simp
  | c :: cs, ds, fl => by
    rw [List.foldlM_cons, step_cases]
    unfold gF
    by_cases h : c = 95
    · rw [if_pos h, if_pos h]
      cases fl
      · rfl
      · exact run_gF cs ds false
    · rw [if_neg h, if_neg h]
      by_cases hd : 48 ≤ c ∧ c ≤ 57
      · rw [if_pos hd, if_pos hd]
        have := run_gF cs (ds.push (c - 48)) true
        rw [dval_push] at this
        refine Eq.trans this ?_
        congr 1
        omega
      · rw [if_neg hd, if_neg hd]; rfl
theorem digits_gF (cs : List Nat) : (digits? 10 cs).map dval = gF cs false 0 := run_gF cs #[] false
theorem gF_cons (c : Nat) (cs : List Nat) (fl : Bool) (a : Int) : gF (c :: cs) fl a = if c = 95 then (if fl = true then gF cs false a else none) else if 48 ≤ c ∧ c ≤ 57 then gF cs true (a * 10 + ((c : Int) - 48)) else none := rfl
theorem gF_piece : ∀ (p t : List Nat) (fl : Bool) (a : Int), 95 ∉ p → gF (p ++ t) fl a = (pieceF p a).bind fun b => gF t (fl || !p.isEmpty) b
  | [], t, fl, a, _ => by simp [pieceF]
  | c :: cs, t, fl, a, h => by
    have h1 : c ≠ 95 := fun e => h (e ▸ List.mem_cons_self ..)
    have h2 : 95 ∉ cs := fun e => h (List.mem_cons_of_mem _ e)
    rw [List.cons_append]
    rw [gF_cons, if_neg h1]
    by_cases hd : 48 ≤ c ∧ c ≤ 57
    · rw [if_pos hd, gF_piece cs t true _ h2]; simp [pieceF, hd]
    · rw [if_neg hd]; simp [pieceF, hd]
theorem empty_iff (p : Str) : (p == Str.ofString "") = p.cps.toList.isEmpty := by
  obtain ⟨⟨l⟩⟩ := p
  rw [Bool.eq_iff_iff, beq_iff_eq]
  have : Str.ofString "" = ⟨#[]⟩ := by decide +kernel
  rw [this]
  cases l <;> simp
theorem pieces_gF : ∀ (ps : List Str) (a : Int), ps ≠ [] → (∀ p ∈ ps, 95 ∉ p.cps.toList) → piecesF ps a = gF (Str.join ⟨#[95]⟩ ps).cps.toList false a
  | [], _, h, _ => absurd rfl h
  | [p], a, _, hf => by
    have e : (Str.join ⟨#[95]⟩ [p]) = p := rfl
    rw [e]
    have := gF_piece p.cps.toList [] false a (hf p (List.mem_singleton.mpr rfl))
    rw [List.append_nil] at this
    rw [this]
    unfold piecesF
    rw [empty_iff]
    cases he : p.cps.toList.isEmpty
    · simp only [Bool.false_or, Bool.not_false]
      rw [if_neg Bool.false_ne_true]
      rfl
    · rw [if_pos rfl]
      rw [List.isEmpty_iff.mp he]; rfl
  | p :: q :: r, a, _, hf => by
    have e : (Str.join ⟨#[95]⟩ (p :: q :: r)).cps.toList = p.cps.toList ++ 95 :: (Str.join ⟨#[95]⟩ (q :: r)).cps.toList := by
      show ((p.cps ++ (#[95] : Array Nat)) ++ (Str.join ⟨#[95]⟩ (q :: r)).cps).toList = _
      simp
    rw [e, gF_piece _ _ _ _ (hf p (List.mem_cons_self ..))]
    rw [show piecesF (p :: q :: r) a = if p == Str.ofString "" then none else (pieceF p.cps.toList a).bind (piecesF (q :: r)) from rfl, empty_iff]
    have ih := fun b => pieces_gF (q :: r) b (by simp) (fun p hp => hf p (List.mem_cons_of_mem _ hp))
    cases he : p.cps.toList.isEmpty
    · rw [if_neg Bool.false_ne_true]
      congr 1
      funext b
      rw [ih b]
      rw [gF_cons]
      rfl
    · rw [if_pos rfl, List.isEmpty_iff.mp he]
      rfl
theorem split_ne (x y : Str) : Txt.split x y ≠ [] := by
  intro h
  have hp := PySem.StrLaws.join_split x y
  unfold Txt.split at h
  split at h
  · cases h
  · rw [PySem.StrLaws.partsBetween_eq] at h
    split at h
    · cases h
    · obtain ⟨p, r, e⟩ := PySem.StrLaws.partsFrom_ne x y.length 0 (Builtin.Str.occurrences x y 0 x.length (x.length + 1))
      rw [e] at h; cases h
theorem pieces_split (B : Str) : piecesF (Txt.split B (Str.ofString "_")) 0 = gF B.cps.toList false 0 := by
  have e : Str.ofString "_" = ⟨#[95]⟩ := by decide +kernel
  rw [e, pieces_gF _ _ (split_ne _ _) (PySem.StrLaws.split_free B 95), PySem.StrLaws.join_split]
/-! the body -/
noncomputable def rst (l : List Nat) : List Nat := (l.reverse.dropWhile blank).reverse
theorem rst_cons {c : Nat} {r : List Nat} (h : blank c = false) : rst (c :: r) = c :: rst r := by
  unfold rst
  rw [List.reverse_cons, List.dropWhile_append]
  split
  · rename_i he
    rw [List.isEmpty_iff.mp he]
    simp [List.dropWhile, h]
  · simp
theorem lst_head {l : List Nat} {c : Nat} {r : List Nat} (h : l.dropWhile blank = c :: r) : blank c = false := by
  induction l with
  | nil => cases h
  | cons a l ih =>
    rw [List.dropWhile_cons] at h
    split at h
    · exact ih h
    · rename_i hb; cases h; simpa using hb
theorem sign_swap (l : List Nat) : rst (sign (l.dropWhile blank)).2 = (sign (rst (l.dropWhile blank))).2 ∧ (sign (l.dropWhile blank)).1 = (sign (rst (l.dropWhile blank))).1 := by
  cases h : l.dropWhile blank with
  | nil => exact ⟨rfl, rfl⟩
  | cons c r =>
    have hb := lst_head h
    rw [rst_cons hb]
    by_cases h1 : c = 45
    · subst h1; exact ⟨rfl, rfl⟩
    · by_cases h2 : c = 43
      · subst h2; exact ⟨rfl, rfl⟩
      · rw [sign_of h1 h2, sign_of h1 h2]; exact ⟨rst_cons hb, rfl⟩
theorem Asc.seen {x : Str} (h : Asc x) : numTextOf x = x.cps.toList ∧ numSeenOf x = x.cps.toList := by
  have e1 : numTextOf x = x.cps.toList := if_pos h.all
  refine ⟨e1, ?_⟩
  show (numTextOf x).takeWhile _ = _
  rw [e1]
  refine takeWhile_all fun c hc => ?_
  have := h c hc
  exact bne_iff_ne.mpr (by omega)
theorem intText_gF {x : Str} (h : Asc x) (hl : x.length ≤ 500) : PySem.intText? x = (gF (sign (rst (x.cps.toList.dropWhile blank))).2 false 0).map fun n => if (sign (rst (x.cps.toList.dropWhile blank))).1 = true then -n else n := by
  obtain ⟨e1, e2⟩ := h.seen
  unfold PySem.intText?
  rw [e1, e2, if_pos (beq_self_eq_true _)]
  have ec : core x.cps.toList = (sign (rst (x.cps.toList.dropWhile blank))).2 := (sign_swap _).1
  rw [← ec, ← (sign_swap _).2, ← digits_gF]
  cases hd : digits? 10 (core x.cps.toList) with
  | none => rfl
  | some ds =>
    have := digits_size hd
    have := core_length x.cps.toList
    have e : x.cps.toList.length = x.length := Array.length_toList
    simp only [Option.map_some]
    rw [if_pos (by omega)]
    unfold worth dval
    split <;> simp_all
theorem drop_takeWhile (g : Nat → Bool) : ∀ l : List Nat, l.drop (l.takeWhile g).length = l.dropWhile g
  | [] => rfl
  | c :: l => by
    rw [List.takeWhile_cons, List.dropWhile_cons]
    split
    · simpa using drop_takeWhile g l
    · rfl
theorem dropWhile_congr {g g' : Nat → Bool} : ∀ {l : List Nat}, (∀ c ∈ l, g c = g' c) → l.dropWhile g = l.dropWhile g'
  | [], _ => rfl
  | c :: l, h => by
    rw [List.dropWhile_cons, List.dropWhile_cons, h c (List.mem_cons_self ..), dropWhile_congr fun d hd => h d (List.mem_cons_of_mem _ hd)]
theorem strip_list {x y : Str} : (Txt.stripChars x y).cps.toList = (((x.cps.toList.dropWhile y.cps.contains).reverse.dropWhile y.cps.contains)).reverse := by
  rw [Txt.stripChars, PySem.W.stripBy_eq]
  unfold PySem.W.stripped
  simp only [if_true]
  rw [PySem.StrLaws.strSub_toList, drop_takeWhile]
  generalize hd : x.cps.toList.dropWhile y.cps.contains = d
  have hlen : d.length = x.length - (x.cps.toList.takeWhile y.cps.contains).length := by
    rw [← hd, ← drop_takeWhile, List.length_drop]; rfl
  rw [show x.length - (List.takeWhile y.cps.contains d.reverse).length - (List.takeWhile y.cps.contains x.cps.toList).length = d.length - (d.reverse.takeWhile y.cps.contains).length by omega]
  rw [← drop_takeWhile, List.reverse_drop, List.reverse_reverse, List.length_reverse]
theorem blank_eq : ∀ c : Nat, 32 ≤ c → blank c = (Str.ofString " ").cps.contains c := fun c hc => by
  have e : Str.ofString " " = ⟨#[32]⟩ := by decide +kernel
  rw [e]
  unfold blank
  rw [decide_eq_false (show ¬ c ≤ 13 by omega)]
  by_cases h : c = 32 <;> simp [h]
theorem strip_rst {x : Str} (h : Asc x) : (Txt.stripChars x (Str.ofString " ")).cps.toList = rst (x.cps.toList.dropWhile blank) := by
  rw [strip_list]
  have e1 : x.cps.toList.dropWhile (Str.ofString " ").cps.contains = x.cps.toList.dropWhile blank := dropWhile_congr fun c hc => (blank_eq c (h c hc).1).symm
  rw [e1]
  unfold rst
  congr 1
  refine dropWhile_congr fun c hc => (blank_eq c ?_).symm
  exact (h c ((List.dropWhile_sublist _).mem (List.mem_reverse.mp hc))).1
theorem slice_from1 {x : Str} (h : 1 ≤ x.length) : (Txt.slice x (some 1) none).cps.toList = x.cps.toList.drop 1 := by
  have e : Txt.slice x (some 1) none = Txt.slice x (some ((1 : Nat) : Int)) (some (x.length : Int)) := by
    unfold Txt.slice
    rw [StrLaws.sliceIdx_none_hi]; rfl
  rw [e, slice_toList x h (Nat.le_refl _), List.take_of_length_le]
  rw [List.length_drop]; exact Nat.le_of_eq rfl
theorem num_law {x : Str} (h : Asc x) (hl : x.length ≤ 500) : numF x = PySem.intText? x := by
  rw [intText_gF h hl]
  unfold numF
  rw [pieces_split]
  have e := strip_rst h
  generalize rst (x.cps.toList.dropWhile blank) = B at e
  have e1 : (Txt.slice (Txt.stripChars x (Str.ofString " ")) none (some 1)).cps.toList = B.take 1 := by
    have := slice_to (Txt.stripChars x (Str.ofString " ")) 1
    rw [e] at this; exact this
  have m1 : ∀ c, (Txt.slice (Txt.stripChars x (Str.ofString " ")) none (some 1) == (⟨#[c]⟩ : Str)) = true ↔ B.head? = some c := by
    intro c
    rw [beq_iff_eq]
    constructor
    · intro he
      rw [he] at e1
      cases B with
      | nil => cases e1
      | cons a r => simp at e1; simp [e1]
    · intro he
      refine PySem.Str.ext' ?_
      cases B with
      | nil => cases he
      | cons a r =>
        simp at he
        rw [← Array.toList_inj, e1, he]; rfl
  have ep : Str.ofString "+" = ⟨#[43]⟩ := by decide +kernel
  have em : Str.ofString "-" = ⟨#[45]⟩ := by decide +kernel
  have hneg : numNeg x = (sign B).1 := by
    rw [Bool.eq_iff_iff]
    unfold numNeg
    rw [em, m1 45]
    unfold sign
    split
    · simp
    · simp
    · rename_i n1 n2
      simp only [Bool.false_eq_true, iff_false]
      intro hh
      cases B with
      | nil => cases hh
      | cons a r => simp at hh; exact n1 r (by rw [hh])
  have hbody : (numBody x).cps.toList = (sign B).2 := by
    unfold numBody
    rw [hneg, ep]
    have hlen' : ∀ c, B.head? = some c → 1 ≤ (Txt.stripChars x (Str.ofString " ")).length := fun c hc => by
      have : (Txt.stripChars x (Str.ofString " ")).cps.toList.length = (Txt.stripChars x (Str.ofString " ")).length := Array.length_toList
      rw [← this, e]
      cases B with
      | nil => cases hc
      | cons a r => simp
    by_cases h1 : B.head? = some 43
    · have hlen := hlen' _ h1
      rw [if_pos ((m1 43).mpr h1), slice_from1 hlen, e]
      cases B with
      | nil => cases h1
      | cons a r => simp at h1; subst h1; rfl
    · rw [if_neg (fun hh => h1 ((m1 43).mp hh))]
      unfold sign
      split
      · have hlen := hlen' 45 rfl
        rw [if_pos rfl, slice_from1 hlen, e]; rfl
      · simp at h1
      · rw [if_neg Bool.false_ne_true, e]
  rw [hneg, hbody]
end Mine
end

section
set_option linter.all false
namespace Mine
theorem str_inj {a b : Str} (h : a.cps.toList = b.cps.toList) : a = b := by
  obtain ⟨⟨a⟩⟩ := a; obtain ⟨⟨b⟩⟩ := b; simp at h; rw [h]
theorem at_iff (x : Str) (c i : Nat) : StrLaws.At x ⟨#[c]⟩ x.length i ↔ x.cps.toList[i]? = some c := StrLaws.subAt_one x c i
theorem partsFrom_len (x : Str) (w : Nat) : ∀ (cuts : List Nat) (a : Nat), (StrLaws.partsFrom x w a cuts).length = cuts.length + 1
  | [], _ => rfl
  | c :: r, a => by
    show (StrLaws.partsFrom x w (c + w) r).length + 1 = _
    rw [partsFrom_len x w r]; rfl
theorem split_count {I : Str} {c : Nat} (hc : c ∈ I.cps.toList) : ((Txt.split I ⟨#[c]⟩).length : Int) = Txt.count I ⟨#[c]⟩ + 1 := by
  unfold Txt.split Txt.count
  have h1 : ¬ I.length < (⟨#[c]⟩ : Str).length := by
    have : I.cps.toList.length = I.length := Array.length_toList
    have := List.length_pos_of_mem hc
    show ¬ I.length < 1
    (first | lia | omega)
  have h2 : ¬ Builtin.Str.strKind I < Builtin.Str.strKind ⟨#[c]⟩ := fun h => StrLaws.kind_free I c h hc
  rw [if_neg (by rw [decide_eq_false h1, decide_eq_false h2]; decide)]
  split
  · rename_i he
    rw [List.isEmpty_iff.mp he]; rfl
  · rw [StrLaws.partsBetween_eq, partsFrom_len]; simp
theorem last_unique {c : Nat} : ∀ {A A' B B' : List Nat}, A ++ c :: B = A' ++ c :: B' → c ∉ B → c ∉ B' → B = B'
  | [], [], B, B', h, _, _ => by simpa using h
  | [], a :: A', B, B', h, hB, _ => by
    simp at h
    exact absurd (by rw [h.2]; simp) hB
  | a :: A, [], B, B', h, _, hB' => by
    simp at h
    exact absurd (by rw [← h.2]; simp) hB'
  | a :: A, a' :: A', B, B', h, hB, hB' => by
    simp at h
    exact last_unique h.2 hB hB'
theorem item_nat {x : Str} {i : Nat} {c : Nat} (h : x.cps.toList[i]? = some c) : Txt.item x (i : Int) = ⟨#[c]⟩ := by
  have : Txt.charAt x (i : Int) = some c := StrLaws.at_nonneg (by (first | lia | omega)) (by rw [Array.getElem?_toList] at h; exact h)
  unfold Txt.item; rw [this]; rfl
theorem item_last {x : Str} {c : Nat} (hx : 1 ≤ x.length) (h : x.cps.toList[x.length - 1]? = some c) : Txt.item x (-1) = ⟨#[c]⟩ := by
  have : Txt.charAt x (-1) = some c := StrLaws.at_neg (by (first | lia | omega)) (by (first | lia | omega)) (by rw [Array.getElem?_toList] at h; rw [show (-1 + (x.length : Int)).toNat = x.length - 1 by (first | lia | omega)]; exact h)
  unfold Txt.item; rw [this]; rfl
theorem slice_butlast {x : Str} (hx : 1 ≤ x.length) : (Txt.slice x none (some (-1))).cps.toList = x.cps.toList.take (x.length - 1) := by
  rw [slice_none_lo]
  have e : Txt.slice x (some 0) (some (-1)) = Txt.slice x (some ((0 : Nat) : Int)) (some ((x.length - 1 : Nat) : Int)) := by
    unfold Txt.slice
    rw [StrLaws.sliceIdx_neg_hi _ x.length (by (first | lia | omega)) (by (first | lia | omega)), show (-1 + (x.length : Int)) = ((x.length - 1 : Nat) : Int) by (first | lia | omega)]; rfl
  rw [e, slice_toList x (Nat.zero_le _) (by (first | lia | omega))]; rfl
theorem numPart_is {I : Str} {c : Nat} {ps : List Str} (h0 : I.cps.toList.head? = some c) (hl : I.cps.toList.getLast? = some c) (hps : Txt.split I ⟨#[c]⟩ = ps) (h5 : ps.length = 5) : numPart I = ps.getD 3 Str.empty := by
  have hj := StrLaws.join_split I ⟨#[c]⟩
  have hf := StrLaws.split_free I c
  rw [hps] at hj hf
  obtain ⟨p0, p1, p2, p3, p4, rfl⟩ : ∃ p0 p1 p2 p3 p4, ps = [p0, p1, p2, p3, p4] := by
    match ps, h5 with
    | [p0, p1, p2, p3, p4], _ => exact ⟨p0, p1, p2, p3, p4, rfl⟩
  have hI : I.cps.toList = p0.cps.toList ++ c :: (p1.cps.toList ++ c :: (p2.cps.toList ++ c :: (p3.cps.toList ++ c :: p4.cps.toList))) := by
    rw [← hj]
    show ((p0.cps ++ #[c]) ++ ((p1.cps ++ #[c]) ++ ((p2.cps ++ #[c]) ++ ((p3.cps ++ #[c]) ++ p4.cps)))).toList = _
    simp
  have f0 : c ∉ p0.cps.toList := hf p0 (by simp)
  have f3 : c ∉ p3.cps.toList := hf p3 (by simp)
  have f4 : c ∉ p4.cps.toList := hf p4 (by simp)
  have e0 : p0.cps.toList = [] := by
    cases hp : p0.cps.toList with
    | nil => rfl
    | cons a r =>
      rw [hI, hp] at h0
      simp at h0
      exact absurd (by rw [hp, h0]; simp) f0
  have e4 : p4.cps.toList = [] := by
    cases hp : p4.cps.toList.reverse with
    | nil => simpa using hp
    | cons a r =>
      have hp' : p4.cps.toList = r.reverse ++ [a] := by rw [← List.reverse_reverse p4.cps.toList, hp]; simp
      rw [hI, hp'] at hl
      have : a = c := by
        simp [List.getLast?_append, List.getLast?_cons] at hl
        exact hl
      exact absurd (by rw [hp', this]; simp) f4
  have hlen : I.cps.toList.length = I.length := Array.length_toList
  have hx : 1 ≤ I.length := by rw [← hlen, hI]; simp; (first | lia | omega)
  have hJ : (Txt.slice I none (some (-1))).cps.toList = (c :: (p1.cps.toList ++ c :: p2.cps.toList)) ++ c :: p3.cps.toList := by
    rw [slice_butlast hx, ← hlen, hI, e0, e4]
    have : ([] : List Nat) ++ c :: (p1.cps.toList ++ c :: (p2.cps.toList ++ c :: (p3.cps.toList ++ [c]))) = ((c :: (p1.cps.toList ++ c :: p2.cps.toList)) ++ c :: p3.cps.toList) ++ [c] := by simp
    rw [this, List.length_append]
    rw [List.take_left' (by simp)]
  have hi0 : Txt.item I 0 = ⟨#[c]⟩ := item_nat (i := 0) (by rw [hI, e0]; rfl)
  unfold numPart
  rw [hi0]
  generalize Txt.slice I none (some (-1)) = J at hJ
  refine str_inj ?_
  show _ = p3.cps.toList
  rcases rpartition_tail J ⟨#[c]⟩ with ⟨_, hn⟩ | ⟨i, e, hat, hn⟩
  · exfalso
    refine hn 0 ((at_iff J c 0).mpr ?_)
    rw [hJ]; rfl
  · rw [e, StrLaws.strSub_toList]
    have hat' := (at_iff J c i).mp hat
    have hlen2 : J.cps.toList.length = J.length := Array.length_toList
    obtain ⟨hi, hg⟩ := List.getElem?_eq_some_iff.mp hat'
    have hsplit : J.cps.toList = J.cps.toList.take i ++ c :: J.cps.toList.drop (i + 1) := by
      conv => lhs; rw [← List.take_append_drop i J.cps.toList]
      rw [List.drop_eq_getElem_cons hi, hg]
    have hfree : c ∉ J.cps.toList.drop (i + 1) := by
      intro hm
      obtain ⟨k, hk⟩ := List.getElem?_of_mem hm
      rw [List.getElem?_drop] at hk
      exact hn (i + 1 + k) (by (first | lia | omega)) ((at_iff J c _).mpr hk)
    have htk : (J.cps.toList.drop (i + (⟨#[c]⟩ : Str).length)).take (J.length - (i + (⟨#[c]⟩ : Str).length)) = J.cps.toList.drop (i + 1) := by
      show (J.cps.toList.drop (i + 1)).take (J.length - (i + 1)) = _
      rw [List.take_of_length_le]; rw [List.length_drop, hlen2]; (first | lia | omega)
    rw [htk]
    exact last_unique (hsplit.symm.trans hJ) hfree f3
theorem slice_len2 (x : Str) (l u : Option Int) : (Txt.slice x l u).length ≤ x.length := Txt.slice_le x l u
theorem slice_len (x : Str) : (Txt.slice x none (some (-1))).length ≤ x.length := slice_len2 _ _ _
theorem part_none {y : Str} {c : Nat} (h : c ∉ y.cps.toList) : Txt.partition y ⟨#[c]⟩ = (y, Str.empty, Str.empty) := by
  rcases partition_whole y ⟨#[c]⟩ with ⟨e, _⟩ | ⟨i, _, hat, _⟩
  · exact e
  · exact absurd (List.mem_of_getElem? ((at_iff y c i).mp hat)) h
theorem part_some {y : Str} {A B : List Nat} {c : Nat} (hy : y.cps.toList = A ++ c :: B) (h : c ∉ A) : (Txt.partition y ⟨#[c]⟩).1.cps.toList = A ∧ (Txt.partition y ⟨#[c]⟩).2.1 = ⟨#[c]⟩ ∧ (Txt.partition y ⟨#[c]⟩).2.2.cps.toList = B := by
  have hlen : y.cps.toList.length = y.length := Array.length_toList
  rcases partition_whole y ⟨#[c]⟩ with ⟨_, hn⟩ | ⟨i, e, hat, hn⟩
  · exact absurd ((at_iff y c A.length).mpr (by rw [hy]; simp)) (hn A.length)
  · have hi : i = A.length := by
      rcases Nat.lt_trichotomy i A.length with hlt | he | hgt
      · have := (at_iff y c i).mp hat
        rw [hy, List.getElem?_append_left hlt] at this
        exact absurd (List.mem_of_getElem? this) h
      · exact he
      · exact absurd ((at_iff y c A.length).mpr (by rw [hy]; simp)) (hn _ hgt)
    subst hi
    rw [e]
    refine ⟨?_, rfl, ?_⟩
    · show (Builtin.Str.strSub y 0 A.length).cps.toList = A
      rw [StrLaws.strSub_toList, hy]; simp
    · show (Builtin.Str.strSub y (A.length + 1) y.length).cps.toList = B
      rw [StrLaws.strSub_toList, ← hlen, hy]; simp
      rw [List.take_of_length_le (by (first | lia | omega))]
theorem first_cut {l : List Nat} {c : Nat} (h : c ∈ l) : ∃ A B, l = A ++ c :: B ∧ c ∉ A := by
  induction l with
  | nil => cases h
  | cons a r ih =>
    by_cases e : a = c
    · exact ⟨[], r, by rw [e]; rfl, by simp⟩
    · obtain ⟨A, B, hr, hA⟩ := ih ((List.mem_cons.mp h).resolve_left (fun q => e q.symm))
      exact ⟨a :: A, B, by rw [hr]; rfl, fun hm => (List.mem_cons.mp hm).elim (fun q => e q.symm) hA⟩
theorem read_law {x : Str} (ha : Asc x) (hl : x.length ≤ 500) : readF x = parseF x := by
  unfold readF
  by_cases h229 : (Txt.slice x none (some 3) != Str.ofString "229") = true
  · rw [if_pos h229, pf_reply h229]
  rw [if_neg h229]
  have h229' : (Txt.slice x none (some 3) != Str.ofString "229") = false := by simpa using h229
  have hlen : x.cps.toList.length = x.length := Array.length_toList
  unfold readIn insOf cloOf
  have hso := str_open
  have hsc := str_close
  by_cases hm : 40 ∈ x.cps.toList
  · obtain ⟨A, B, hAB, hA⟩ := first_cut hm
    obtain ⟨_, _, hy⟩ := part_some hAB hA
    rw [← hso] at hy
    have hfind : Txt.find x (Str.ofString "(") = (A.length : Int) := by
      rw [hso]
      rcases find_whole x ⟨#[40]⟩ with ⟨_, hn⟩ | ⟨i, e, hat, hn⟩
      · exact absurd ((at_iff x 40 A.length).mpr (by rw [hAB]; simp)) (hn A.length)
      · rw [e]
        have : i = A.length := by
          rcases Nat.lt_trichotomy i A.length with hlt | he | hgt
          · have := (at_iff x 40 i).mp hat
            rw [hAB, List.getElem?_append_left hlt] at this
            exact absurd (List.mem_of_getElem? this) hA
          · exact he
          · exact absurd ((at_iff x 40 A.length).mpr (by rw [hAB]; simp)) (hn _ hgt)
        rw [this]
    have hnl : ¬ Txt.find x (Str.ofString "(") < 0 := by rw [hfind]; (first | lia | omega)
    have hfrom : fromIndex x.length ((A.length : Int) + 1) = A.length + 1 := by unfold fromIndex; rw [if_neg (by (first | lia | omega))]; (first | lia | omega)
    have hxl : x.length = A.length + 1 + B.length := by rw [← hlen, hAB]; simp; (first | lia | omega)
    have hget : ∀ v, x.cps.toList[A.length + 1 + v]? = B[v]? := fun v => by
      rw [hAB, List.getElem?_append_right (by (first | lia | omega)), show A.length + 1 + v - A.length = v + 1 by (first | lia | omega)]; rfl
    generalize (Txt.partition x (Str.ofString "(")).2.2 = y at hy
    by_cases hm2 : 41 ∈ B
    · obtain ⟨I, D, hID, hI⟩ := first_cut hm2
      obtain ⟨e1, e2, _⟩ := part_some (hy.trans hID) hI
      rw [← hsc] at e1 e2
      rw [e2]
      have hr : Txt.find3 x (Str.ofString ")") (Txt.find x (Str.ofString "(") + 1) = ((A.length + 1 + I.length : Nat) : Int) := by
        rw [hfind, hsc]
        rcases StrLaws.find3_spec x 41 ((A.length : Int) + 1) with ⟨_, hn⟩ | ⟨k, e, hk1, hk2, hk3, hn⟩
        · refine absurd ?_ (hn (A.length + 1 + I.length) (by rw [hfrom]; (first | lia | omega)) (by rw [hxl, hID]; simp))
          refine StrLaws.getD_of_getElem? ?_
          rw [hget, hID]; simp
        · rw [e]
          rw [hfrom] at hk1
          have hk : x.cps.toList[k]? = some 41 := StrLaws.getElem?_of_getD hk2 hk3
          obtain ⟨v, rfl⟩ : ∃ v, k = A.length + 1 + v := ⟨k - (A.length + 1), by (first | lia | omega)⟩
          rw [hget, hID] at hk
          rcases Nat.lt_trichotomy v I.length with hlt | he | hgt
          · rw [List.getElem?_append_left hlt] at hk
            exact absurd (List.mem_of_getElem? hk) hI
          · rw [he]
          · refine absurd ?_ (hn (A.length + 1 + I.length) (by rw [hfrom]; (first | lia | omega)) (by (first | lia | omega)))
            refine StrLaws.getD_of_getElem? ?_
            rw [hget, hID]; simp
      rw [pf_in h229' hnl (by rw [hr]; (first | lia | omega)), hr, hfind]
      rw [if_neg (by rw [hsc]; decide +kernel)]
      have hsl : Txt.slice x (some ((A.length : Int) + 1)) (some ((A.length + 1 + I.length : Nat) : Int)) = (Txt.partition y (Str.ofString ")")).1 := by
        refine str_inj ?_
        rw [e1, show ((A.length : Int) + 1) = ((A.length + 1 : Nat) : Int) by (first | lia | omega), slice_toList x (by (first | lia | omega)) (by rw [hxl, hID]; simp)]
        rw [hAB, hID]
        rw [show A.length + 1 + I.length - (A.length + 1) = I.length by (first | lia | omega)]
        rw [List.drop_append, List.drop_of_length_le (by (first | lia | omega))]
        rw [show A.length + 1 - A.length = 1 by (first | lia | omega)]
        simp
      have hP : Asc (Txt.partition y (Str.ofString ")")).1 ∧ (Txt.partition y (Str.ofString ")")).1.length ≤ 500 := by
        rw [← hsl]; refine ⟨ha.slice _ _, ?_⟩; have := slice_len2 x (some ((A.length : Int) + 1)) (some ((A.length + 1 + I.length : Nat) : Int)); (first | lia | omega)
      unfold parseIn
      rw [hsl]
      generalize (Txt.partition y (Str.ofString ")")).1 = Z at e1 hP
      cases hZ : I with
      | nil =>
        rw [hZ] at e1
        rw [if_pos (by rw [empty_iff, e1]; rfl)]
        have i1 : Txt.item x ((A.length : Int) + 1) = ⟨#[41]⟩ := by
          rw [show ((A.length : Int) + 1) = ((A.length + 1 : Nat) : Int) by (first | lia | omega)]
          refine item_nat ?_
          rw [hAB, hID, hZ]; simp
        have i2 : Txt.item x (((A.length + 1 + ([] : List Nat).length : Nat) : Int) - 1) = ⟨#[40]⟩ := by
          rw [show (((A.length + 1 + ([] : List Nat).length : Nat) : Int) - 1) = ((A.length : Nat) : Int) by simp]
          refine item_nat ?_
          rw [hAB]; simp
        rw [i1, i2, if_pos (by decide)]
      | cons c r =>
        rw [hZ] at e1
        rw [if_neg (by rw [empty_iff, e1]; simp)]
        have hzl : Z.length = r.length + 1 := by have : Z.cps.toList.length = Z.length := Array.length_toList; rw [← this, e1]; rfl
        obtain ⟨d, hd⟩ : ∃ d, (c :: r)[r.length]? = some d := ⟨(c :: r)[r.length], List.getElem?_eq_getElem (by simp)⟩
        have h0 : Z.cps.toList.head? = some c := by rw [e1]; rfl
        have h1 : Z.cps.toList.getLast? = some d := by rw [e1, List.getLast?_eq_getElem?]; exact hd
        have j0 : Txt.item Z 0 = ⟨#[c]⟩ := item_nat (i := 0) (by rw [e1]; rfl)
        have j1 : Txt.item Z (-1) = ⟨#[d]⟩ := item_last (by (first | lia | omega)) (by rw [hzl, e1]; exact hd)
        have i1 : Txt.item x ((A.length : Int) + 1) = ⟨#[c]⟩ := by
          rw [show ((A.length : Int) + 1) = ((A.length + 1 + 0 : Nat) : Int) by (first | lia | omega)]
          refine item_nat ?_
          rw [hget, hID, hZ]; rfl
        have i2 : Txt.item x (((A.length + 1 + (c :: r).length : Nat) : Int) - 1) = ⟨#[d]⟩ := by
          rw [show (((A.length + 1 + (c :: r).length : Nat) : Int) - 1) = ((A.length + 1 + r.length : Nat) : Int) by simp; (first | lia | omega)]
          refine item_nat ?_
          rw [hget, hID, hZ, List.getElem?_append_left (by simp)]; exact hd
        rw [i1, i2, j0, j1]
        have hm : c ∈ Z.cps.toList := List.mem_of_mem_head? h0
        have hcnt := split_count hm
        have hnl := num_law hP.1.num (by have := @numPart_len Z; have := slice_len Z; have := hP.2; (first | lia | omega))
        by_cases hcd : c = d
        · subst hcd
          have e0 : ((⟨#[c]⟩ : Str) != ⟨#[c]⟩) = false := by simp
          rw [if_neg (c := ((⟨#[c]⟩ : Str) != ⟨#[c]⟩) = true) (by rw [e0]; exact Bool.false_ne_true), if_neg (c := ((⟨#[c]⟩ : Str) != ⟨#[c]⟩) = true) (by rw [e0]; exact Bool.false_ne_true)]
          by_cases h5 : (Txt.split Z ⟨#[c]⟩).length = 5
          · rw [if_neg (c := (Txt.split Z ⟨#[c]⟩).length ≠ 5) (fun h => h h5), if_neg (c := Txt.count Z ⟨#[c]⟩ ≠ 4) (by rw [h5] at hcnt; simp only [ne_eq, Decidable.not_not]; (first | lia | omega))]
            rw [hnl, numPart_is h0 h1 rfl h5]
            all_goals (generalize PySem.intText? _ = q; cases q <;> rfl)
          · rw [if_pos (c := (Txt.split Z ⟨#[c]⟩).length ≠ 5) h5, if_pos (c := Txt.count Z ⟨#[c]⟩ ≠ 4) (by (first | lia | omega))]
        · have q1 : ((⟨#[c]⟩ : Str) != ⟨#[d]⟩) = true := by simp [hcd]
          have q2 : ((⟨#[d]⟩ : Str) != ⟨#[c]⟩) = true := by simp [Ne.symm hcd]
          rw [if_pos (c := ((⟨#[c]⟩ : Str) != ⟨#[d]⟩) = true) q1]
          by_cases h4 : Txt.count Z ⟨#[c]⟩ ≠ 4
          · rw [if_pos h4]
          · rw [if_neg h4, if_pos (c := ((⟨#[d]⟩ : Str) != ⟨#[c]⟩) = true) q2]
    · have e := part_none (y := y) (c := 41) (by rw [hy]; exact hm2)
      rw [← hsc] at e
      rw [e, if_pos (show (Str.empty == Str.ofString "") = true by decide +kernel)]
      have hr : Txt.find3 x (Str.ofString ")") (Txt.find x (Str.ofString "(") + 1) < 0 := by
        rw [hfind, hsc]
        rcases StrLaws.find3_spec x 41 ((A.length : Int) + 1) with ⟨e, _⟩ | ⟨k, e, hk1, hk2, hk3, hn⟩
        · rw [e]; decide
        · exfalso
          rw [hfrom] at hk1
          have hk : x.cps.toList[k]? = some 41 := StrLaws.getElem?_of_getD hk2 hk3
          obtain ⟨v, rfl⟩ : ∃ v, k = A.length + 1 + v := ⟨k - (A.length + 1), by (first | lia | omega)⟩
          rw [hget] at hk
          exact hm2 (List.mem_of_getElem? hk)
      rw [pf_nope2 h229' hnl hr]
  · have e := part_none (y := x) (c := 40) hm
    rw [← hso] at e
    rw [e]
    have e' : Txt.partition Str.empty (Str.ofString ")") = (Str.empty, Str.empty, Str.empty) := by rw [hsc]; exact part_none (by simp [Str.empty])
    show (if ((Txt.partition Str.empty (Str.ofString ")")).2.1 == Str.ofString "") = true then Rd.proto else _) = _
    rw [e', if_pos (by decide +kernel)]
    have hnl : Txt.find x (Str.ofString "(") < 0 := by
      rw [hso]
      rcases find_whole x ⟨#[40]⟩ with ⟨e, _⟩ | ⟨i, e, hat, hn⟩
      · rw [e]; decide
      · exact absurd (List.mem_of_getElem? ((at_iff x 40 i).mp hat)) hm
    rw [pf_nope h229' hnl]
end Mine
end

section
set_option linter.all false
set_option maxRecDepth 100000
namespace Mine
section
open Builtin Builtin.Str Builtin.BaseException Builtin.Exceptions
variable {prog : Program} {w : World} {A : Around} {E : Value → Shared → Prop} {s : Shared} {K : Frag} {e t C : Addr}
structure OwnExc (h : Heap) (e C t : Addr) (vs : List Value) : Prop where
  it : ∃ oe ws, h.get? e = some oe ∧ oe.cls = .ref C ∧ oe.data = .fields ws ∧ ws[0]? = some (.ref t)
  tup : h.TupAt t vs
theorem OwnExc.type {M : Model} {h : Heap} {vs : List Value} (I : OwnExc h e C t vs) : Looks M h (typeOf (.ref e)) (.ref C) := by
  obtain ⟨oe, ws, h1, h2, _⟩ := I.it
  exact h2 ▸ (Looks.ld h1).andThen .now
theorem OwnExc.of_got {h₀ h : Heap} {L : Addr} {news : List (Addr × Obj)} {vs : List Value} (N : News h₀ L h news) (G : Got news e t (.ref C) vs) : OwnExc h e C t vs := by
  obtain ⟨oe, ot, ws, nt, h1, h2, hc, hd, h0, htc, htd⟩ := G
  exact ⟨⟨oe, ws, N.get h1, hc, hd, h0⟩, ⟨ot, nt, N.get h2, htc, htd⟩⟩
theorem bexcArgs_own {M : Model} {items : List Value} {Q : Value × List Value → Shared → Prop} (I : OwnExc s.heap e C t items) (hq : Q (.ref t, items) s) :
    wpAny M A (bexcArgs (.ref e)) Q E s := by
  obtain ⟨⟨o, vs, ho, _, hd, h0⟩, ot, k, hto, _, htd⟩ := I
  unfold bexcArgs
  refine wpAny_bind (wpAny_field ho hd h0 (wpAny_bind (wpAny_seqItems hto htd ?_)))
  have : items.toArray.toList = items := by simp
  show wpAny M A (pure (Value.ref t, items.toArray.toList)) Q E s
  rw [this]; exact wpAny_pure hq
theorem bexcStr_own {m : Str} {tk : Tok} {Q : Fin → Shared → Prop} (I : OwnExc s.heap e C t [.str m tk]) (hq : Q (.done (.ret (.str m tk))) s) :
    wpAny (model prog w) A (Builtin.«BaseException.__str__» ⟨[.ref e], []⟩) Q E s := by
  unfold Builtin.«BaseException.__str__»
  repeat (first | with_reducible refine bexcArgs_own I ?_ | wp_step)
  exact hq
theorem check_own {M : Model} {Q : Unit → Shared → Prop} {vs : List Value} (X : K.In s.heap) (I : OwnExc s.heap e C t vs) (hsub : subIn K (.ref C) (.type "BaseException") = some true) (hq : Q () s) :
    wpAny M A (checkBuiltinCall "BaseException.__str__" ⟨[.ref e], []⟩) Q E s := by
  have hsplit : splitId "BaseException.__str__" = some ("BaseException", "__str__") := by kernel_rfl
  have hkind : (Manifest.find? "BaseException").bind (·.attrs.lookup "__str__") = some .slot := by kernel_rfl
  have hk : builtinKind "BaseException.__str__" = some .slot := by simp only [builtinKind, hsplit]; exact hkind
  have ha := PySem.F.args_bexc_str (.ref e)
  simp only [checkBuiltinCall, hk, hsplit]
  refine wpAny_bind ?_
  unfold isInstance
  refine wpAny_bind (I.type.here ((looks_subIn X hsub).here ?_))
  simp only [Bool.not_true, Bool.false_eq_true, if_false]
  cases hsig : Manifest.signature? "BaseException.__str__" with
  | none => exact wpAny_pure hq
  | some sig =>
    simp only [argsOk, hsig] at ha
    have h2 : Bind.checkArgs "BaseException.__str__" sig ⟨[.ref e], []⟩ = pure () := ha
    show wpAny M A (Bind.checkArgs "BaseException.__str__" sig ⟨[.ref e], []⟩) Q E s
    rw [h2]; exact wpAny_pure hq
theorem strOf_own {m : Str} {tk : Tok} {Q : Value → Shared → Prop} (hu : A.units < cLine) (X : K.In s.heap) (I : OwnExc s.heap e C t [.str m tk])
    (hs : findIn K (.ref C) "__str__" = some (some (.builtin "BaseException.__str__"))) (hsub : subIn K (.ref C) (.type "BaseException") = some true) (hq : Q (.str m tk) s) :
    wpAny (model prog w) A (PySem.Builtin.Str.strOf (.ref e)) Q E s := by
  unfold PySem.Builtin.Str.strOf
  rw [show isExactStr (.ref e) = false from rfl]
  refine wpAny_bind (m := cRoomFor _ _) (wpAny_cRoomFor hu ?_)
  refine wpAny_bind (m := callSpecial? (.ref e) (Str.ofString "__str__")) ?_
  have hb := PySem.F.excStr_ValueError.str.bind (.ref e)
  unfold callSpecial?
  refine wpAny_bind (wpAny_bind (I.type.here ((looks_findIn X hs).here (wpAny_holding (wpAny_bind (wpAny_of_eq hb (wpAny_bind ?_)))))))
  refine wpAny_call (codeAny_call_builtin PySem.F.excStr_ValueError.str.plain PySem.F.entry_bexc_str (check_own X I hsub (bexcStr_own I ?_)))
  exact wpAny_pure (wpAny_pure hq)
theorem str_own_one {m : Str} {tk : Tok} {Q : Value → Shared → Prop} (hu : A.units + 2 < cLine) (X : K.In s.heap) (I : OwnExc s.heap e C t [.str m tk])
    (hs : findIn K (.ref C) "__str__" = some (some (.builtin "BaseException.__str__"))) (hsub : subIn K (.ref C) (.type "BaseException") = some true) (hq : Q (.str m tk) s) :
    wpAny (model prog w) A (call (.type "str") [.ref e]) Q E s :=
  callType_new PySem.F.called_str (by decide) (PySem.F.typeCall_str_1 _) (PySem.F.newCall_str_1 _) (fun obj => PySem.F.args_object_init_2 obj _) PySem.F.entry_str_new
    (meets_str_new (S := fun A' R s' => A'.units + 1 < cLine ∧ K.In s'.heap ∧ OwnExc s'.heap e C t [.str m tk] ∧ R (.ok (.ret (.str m tk))) s')
      fun _ _ A' _ _ hq => strOf_own (A := A'.in1) hq.1 hq.2.1 hq.2.2.1 hs hsub hq.2.2.2)
    ⟨(show A.units + 1 + 1 < cLine from hu), X, I, typeIs_str _ _ _, hq⟩
end
end Mine
end

section
namespace Mine
set_option maxRecDepth 100000
set_option maxHeartbeats 1000000
set_option linter.all false
theorem kept_K {M : Model} {A : Around} {E : Value → Shared → Prop} {s : Shared} {K : Frag} {name qual : Str} {params : Arguments} {body : List Stmt} {scope : Scope} {dV kV doc pm cdv ct oc : Value} {an od : Option Addr} {osl : Array (Option Value)} {f : Addr}
    (X : K.In s.heap) (ho : K.lookup f = some ⟨oc, od, .func (fnOf name qual params body scope dV kV doc pm an cdv ct), osl⟩) : Kept M A E (.ref f) s := kept_fn (X _ _ ho) rfl
noncomputable def got_spec.Stm (w : World) (A : Around) (E : Value → Shared → Prop) (s : Shared) (base : Heap) (mg : Str → Option Value) (mb : Str → Option Value) (mean : ExcName → Option Value) (Q : Value → Shared → Prop) (outer : List Env) (x : Str) (hs : Str) (t : Tok) (th : Tok) (p : Addr) (pv : Value) : Prop := ∀  (B : Below A base outer s.heap) (X : (Mine.KC w.params).In s.heap) (T : Top EMP LS mean mg mb s.heap) (hh : A.handled = none) (XB : (Mine.KC w.params).In base) (TB : Top EMP LS mean mg mb base) (D : KtsDicts (outer.filterMap (·.frame)) s.heap) (hd : A.depth + 2 < recursionLimit) (hu : A.units + 20 < cLine) (hx : x.length ≤ 500) (ha : Asc x) (hp : IsTup s.heap p #[.str hs th, pv]) (ret : ∀ v g' h' tk, KtsTurn (outer.filterMap (·.frame)) s.heap g' → Kp g' h' → ReadVal (parseF x) hs th s.heap h' v → Q v { s with heap := h', toks := tk }), wpC (model PROG w) A (call (.ref 143) [.str x t, .ref p]) Q E s
noncomputable def got_spec.cst : (World) × (Around) × (Value → Shared → Prop) × (Shared) × (Heap) × (Str → Option Value) × (Str → Option Value) × (ExcName → Option Value) × (Value → Shared → Prop) × (List Env) × (Str) × (Str) × (Tok) × (Tok) × (Addr) × (Value) := eps (aWorld 0, {}, fun _ _ => True, {}, {}, fun _ => none, fun _ => none, fun _ => none, fun _ _ => True, [], Str.empty, Str.empty, 0, 0, 0, .none) (fun q => got_spec.Stm q.1 q.2.1 q.2.2.1 q.2.2.2.1 q.2.2.2.2.1 q.2.2.2.2.2.1 q.2.2.2.2.2.2.1 q.2.2.2.2.2.2.2.1 q.2.2.2.2.2.2.2.2.1 q.2.2.2.2.2.2.2.2.2.1 q.2.2.2.2.2.2.2.2.2.2.1 q.2.2.2.2.2.2.2.2.2.2.2.1 q.2.2.2.2.2.2.2.2.2.2.2.2.1 q.2.2.2.2.2.2.2.2.2.2.2.2.2.1 q.2.2.2.2.2.2.2.2.2.2.2.2.2.2.1 q.2.2.2.2.2.2.2.2.2.2.2.2.2.2.2)
namespace got_spec
noncomputable def w : World := cst.1
noncomputable def A : Around := cst.2.1
noncomputable def s : Shared := cst.2.2.2.1
noncomputable def x : Str := cst.2.2.2.2.2.2.2.2.2.2.1
noncomputable def t : Tok := cst.2.2.2.2.2.2.2.2.2.2.2.2.1
noncomputable def p : Addr := cst.2.2.2.2.2.2.2.2.2.2.2.2.2.2.1
noncomputable def L' : Addr := s.heap.objs.size
theorem it : Stm w A cst.2.2.1 s cst.2.2.2.2.1 cst.2.2.2.2.2.1 cst.2.2.2.2.2.2.1 cst.2.2.2.2.2.2.2.1 cst.2.2.2.2.2.2.2.2.1 cst.2.2.2.2.2.2.2.2.2.1 x cst.2.2.2.2.2.2.2.2.2.2.2.1 t cst.2.2.2.2.2.2.2.2.2.2.2.2.2.1 p cst.2.2.2.2.2.2.2.2.2.2.2.2.2.2.2 := by
  intro  B X T hh XB TB D hd hu hx ha hp ret
  have hfill : (fun (_ : OpenLaw) (_ : Params → Frag) => True) PySem.Challenge.rw_nq0040_01 Mine.KC := by (k_fill; trivial)
  clear hfill
  w_top off
  k_dflt (refine' enterC0 (L := L') rfl (binds := [(Str.ofString "reply", .str x t), (Str.ofString "peer", .ref p)]) ?k1 ?k2 ?k3 ?k6 ?k7 ?k8 ?k9 ?kB ?_ ?c2 ?c3 ?c4 ?c5; (case k1 => assumption); (case k2 => assumption); (case k3 => assumption); (case k6 => k_is); (case k7 => k_is); (case k8 => omega); (case k9 => first | exact BindsTo.of_eq rfl | exact binds_K (by assumption) rfl (by k_is) rfl rfl rfl); (case c5 => decide); (case kB => exact locs rfl); (case c2 => exact rfl); (case c3 => exact rfl); (case c4 => exact rfl); k_whole)
  intro h' F' N'
  try dsimp only
  refine wpC_execs_at 0 ?_
  dsimp only [List.take, List.drop]
  k_fold
  k_steps
  refine wpC_execs_cons (wpC_Try ?_)
  refine wpC_execs_cons (wpC_Return (wpC_Call_Name ?_))
  k_steps
  refine wpC_callWith1 ?_ rfl rfl
  k_steps
  · refine' kept_K (X.keeps (Fr.keep (by assumption))) ?k
    case k => k_is
  · have F1 := F'
    have N1 := N'
    refine parse_spec (B.push F1) (X.keeps F1.keep) (T.keeps F1.keep) hh ?_ ?_ hx ha (Fr.tup F1 hp) ?_ ?_
    · show A.depth + 1 + 1 < recursionLimit; omega
    · show A.units + 3 + 8 < cLine; omega
    · intro e C t' vs h' tk hpe R U
      dsimp only
      refine kts_lookS R F1 B U D ?_
      intro h'' R U
      unfold ParseErr at hpe
      cases hpf : parseF x with
      | ok n => rw [hpf] at hpe; exact hpe.elim
      | reply =>
        rw [hpf] at hpe ret
        obtain ⟨rfl, rfl⟩ := hpe
        refine' hit_SB R F1 B U XB TB D KtsTurn.refl (test_name (c := .ref 37) ?n1 ?n2 rfl rfl ?n3) ?_
        case n1 => exact .inl (by k_is)
        case n2 => exact rfl
        case n3 => decide
        intro h3 g3 news3 tk3 T3 F3 N3 G3 _ B3 X3 P3 D3
        k_steps
        refine' str_own_one (K := Mine.KC w.params) ?u (X3.keeps F3.keep) (OwnExc.of_got N3 G3) ?f ?b ?_
        case u => show A.units + 3 + 2 < cLine; omega
        case f => first | k_is | rfl
        case b => first | k_is | rfl
        k_steps
        · rename_i F9 N9
          exact ret _ g3 _ _ T3 F9.keep ⟨_, rfl⟩
        · exact absurd (by assumption : (x == x) = false) (by simp)
      | proto =>
        rw [hpf] at hpe ret
        obtain ⟨rfl, rfl⟩ := hpe
        refine' pass_S R F1 B U XB TB D (test_name (c := .ref 37) ?n1 ?n2 rfl rfl ?n3) ?_
        case n1 => exact .inl (by k_is)
        case n2 => exact rfl
        case n3 => decide
        clear R U
        intro h2 R U
        refine' hit_SB R F1 B U XB TB D KtsTurn.refl (test_name (c := .ref 49) ?n1 ?n2 rfl rfl ?n3) ?_
        case n1 => exact .inl (by k_is)
        case n2 => exact rfl
        case n3 => decide
        intro h3 g3 news3 tk3 T3 F3 N3 G3 _ B3 X3 P3 D3
        k_steps
        refine' str_own_one (K := Mine.KC w.params) ?u (X3.keeps F3.keep) (OwnExc.of_got N3 G3) ?f ?b ?_
        case u => show A.units + 3 + 2 < cLine; omega
        case f => first | k_is | rfl
        case b => first | k_is | rfl
        k_steps
        · rename_i F9 N9
          exact ret _ g3 _ _ T3 F9.keep ⟨_, rfl⟩
        · exact absurd (by assumption : (x == x) = false) (by simp)
      | value =>
        rw [hpf] at hpe ret
        obtain ⟨rfl, m, tm, rfl⟩ := hpe
        refine' pass_S R F1 B U XB TB D (test_name (c := .ref 37) ?n1 ?n2 rfl rfl ?n3) ?_
        case n1 => exact .inl (by k_is)
        case n2 => exact rfl
        case n3 => decide
        clear R U
        intro h2 R U
        refine' pass_S R F1 B U XB TB D (test_name (c := .ref 49) ?n1 ?n2 rfl rfl ?n3) ?_
        case n1 => exact .inl (by k_is)
        case n2 => exact rfl
        case n3 => decide
        clear R U
        intro h2 R U
        refine' hit_S0 R F1 B U XB TB D KtsTurn.refl (test_name (c := .type "ValueError") ?n1 ?n2 rfl rfl ?n3) ?_
        case n1 => exact .inr ⟨by k_is, PyProof.Rows.Boot.«ValueError», by decide⟩
        case n2 => exact rfl
        case n3 => decide
        intro h3 g3 news3 T3 F3 N3 G3 _ B3 X3 P3 D3
        k_steps
        exact ret _ g3 _ _ T3 F3.keep ⟨_, rfl⟩
    · intro n a tn h' tk hok hk hf hg
      dsimp only
      refine ret _ s.heap _ _ KtsTurn.refl (fun b o q => hk b o (F1.keep b o q)) ?_
      rw [hok]
      refine ⟨a, tn, rfl, ?_, hg⟩
      exact kts_none F1.keep hf
end got_spec
theorem got_spec {w : World} {A : Around} {E : Value → Shared → Prop} {s : Shared} {base : Heap} {mg : Str → Option Value} {mb : Str → Option Value} {mean : ExcName → Option Value} {Q : Value → Shared → Prop} {outer : List Env} {x : Str} {hs : Str} {t : Tok} {th : Tok} {p : Addr} {pv : Value} 
   (B : Below A base outer s.heap) (X : (Mine.KC w.params).In s.heap) (T : Top EMP LS mean mg mb s.heap) (hh : A.handled = none) (XB : (Mine.KC w.params).In base) (TB : Top EMP LS mean mg mb base) (D : KtsDicts (outer.filterMap (·.frame)) s.heap) (hd : A.depth + 2 < recursionLimit) (hu : A.units + 20 < cLine) (hx : x.length ≤ 500) (ha : Asc x) (hp : IsTup s.heap p #[.str hs th, pv]) (ret : ∀ v g' h' tk, KtsTurn (outer.filterMap (·.frame)) s.heap g' → Kp g' h' → ReadVal (parseF x) hs th s.heap h' v → Q v { s with heap := h', toks := tk }) : wpC (model PROG w) A (call (.ref 143) [.str x t, .ref p]) Q E s :=
  (eps_at (G := fun q => got_spec.Stm q.1 q.2.1 q.2.2.1 q.2.2.2.1 q.2.2.2.2.1 q.2.2.2.2.2.1 q.2.2.2.2.2.2.1 q.2.2.2.2.2.2.2.1 q.2.2.2.2.2.2.2.2.1 q.2.2.2.2.2.2.2.2.2.1 q.2.2.2.2.2.2.2.2.2.2.1 q.2.2.2.2.2.2.2.2.2.2.2.1 q.2.2.2.2.2.2.2.2.2.2.2.2.1 q.2.2.2.2.2.2.2.2.2.2.2.2.2.1 q.2.2.2.2.2.2.2.2.2.2.2.2.2.2.1 q.2.2.2.2.2.2.2.2.2.2.2.2.2.2.2) (c := got_spec.cst) rfl got_spec.it (w, A, E, s, base, mg, mb, mean, Q, outer, x, hs, t, th, p, pv) : got_spec.Stm w A E s base mg mb mean Q outer x hs t th p pv)  B X T hh XB TB D hd hu hx ha hp ret
end Mine
end

section
set_option linter.all false
namespace Mine
section
variable {α : Type} {M : Model} {A : Around} {E : Value → Shared → Prop} {s : Shared} {env : Env}
theorem wpC_noted {m : Sem α} {Q : α → Shared → Prop} (h : wpC M A m Q (notedBy M A env E) s) : wpC M A (m.onRaise fun x => do noteFrame x env; theTreesLotGoes x) Q E s :=
  wpC_onRaise (wpC_mono h (fun _ _ q => q) fun _ _ hx => wpC_any (wpAny_bind (wpAny_mono hx (fun _ _ e => wpAny_theTreesLotGoes e) fun _ _ e => e)))
theorem wpC_runOwn {c : Code} {h : Option Value} {Q : Flow → Shared → Prop}
    (hc : codeC M (A.mark h) c (fun r s' => match r with | .ok f => Q f s' | .error e => cameBackBy M A env E e s') s) (hnb : h ≠ some byPass := by intro x; cases x) :
    wpC M A (runOwn c env h) Q E s := by
  unfold runOwn
  exact wpC_onRaise (wpC_mono (wpC_run hc hnb) (fun _ _ q => q) fun _ _ hx => wpC_any hx)
theorem wpC_For {target : Expr} {iter : Expr} {body orelse : List Stmt} {pos : Pos} {Q : Flow → Shared → Prop}
    (h : wpAny M A (eval iter env) (fun x s₁ => wpAny M A (pyIter x) (fun it s₂ =>
      codeC M A (.forLoop target it body orelse env) (fun r s' => match r with | .ok f => Q f s' | .error e => cameBackBy M A env E e s') s₂) E s₁) E s)
    (hs : ∀ x, foldedSetIterable iter env x = pure x := by intro _; rfl) :
    wpC M A (exec (.For target iter body orelse pos) env) Q E s := by
  rw [exec_For]
  refine wpC_bindA (wpAny_standAt ?_)
  refine wpC_bindA (wpAny_mono h (fun x s₁ h₁ => ?_) fun _ _ e => e)
  refine wpC_bindA (wpAny_of_eq (hs x) ?_)
  refine wpC_bindA (wpAny_standAt ?_)
  refine wpC_bindA (wpAny_holding (wpAny_mono h₁ (fun it s₂ h₂ => ?_) fun _ _ e => e))
  exact wpC_runOwn h₂
end
section
variable {prog : Program} {w : World} {A : Around} {R : Result → Shared → Prop} {s : Shared} {env : Env} {target : Expr} {it : Value} {body orelse : List Stmt}
theorem codeC_forTurn
    (h : wpAny (model prog w) A (pyNext it) (fun r s₁ => match r with
      | none => wpAny (model prog w) A (execs orelse env) (fun f s₃ => R (.ok f) s₃) (notedBy (model prog w) A env fun e s' => R (.error e) s') s₁
      | some v => wpAny (model prog w) A (assign target env v) (fun _ s₂ => wpC (model prog w) A (execs body env) (fun f s₃ => match f with
          | .next | .cont => codeC (model prog w) A (.forLoop target it body orelse env) R s₃
          | .brk => R (.ok .next) s₃
          | .ret v => R (.ok (.ret v)) s₃) (notedBy (model prog w) A env fun e s' => R (.error e) s') s₂) (notedBy (model prog w) A env fun e s' => R (.error e) s') s₁) (notedBy (model prog w) A env fun e s' => R (.error e) s') s)
    (ht : ∀ v, letOwnedTupleGo target it v = pure () := by intro _; rfl) : codeC (model prog w) A (.forLoop target it body orelse env) R s := by
  refine codeC_of_tree ?_
  show wpC _ A ((forTurn target it body orelse env).onRaise (fun x => do noteFrame x env; theTreesLotGoes x)) _ _ s
  refine wpC_noted ?_
  simp only [forTurn]
  refine wpC_bindA (wpAny_standAt ?_)
  refine wpC_bindA (wpAny_onRaise (wpAny_mono h (fun r s₁ h₁ => ?_) fun _ _ h' => wpAny_standAt h'))
  cases r with
  | none => exact wpC_pure ⟨rfl, codeC_any (codeAny_block h₁)⟩
  | some v =>
    refine wpC_bindA (wpAny_of_eq (ht v) ?_)
    refine wpC_bindA (wpAny_mono h₁ (fun _ s₂ h₂ => ?_) fun _ _ e => e)
    refine wpC_bind (wpC_mono h₂ (fun f s₃ h₃ => ?_) fun _ _ e => e)
    cases f with
    | next => exact wpC_pure ⟨rfl, h₃⟩
    | cont => exact wpC_pure ⟨rfl, h₃⟩
    | brk => exact wpC_pure h₃
    | ret v => exact wpC_pure h₃
end
end Mine
end

section
set_option linter.all false
namespace Mine
structure Gr (w : World) (A : Around) (base : Heap) (outer : List Env) (mean : ExcName → Option Value) (mg mb : Str → Option Value) (g : Heap) : Prop where
  B : Below A base outer g
  X : (KC w.params).In g
  T : Top EMP LS mean mg mb g
  D : KtsDicts (outer.filterMap (·.frame)) g
section
variable {w : World} {A A' : Around} {base : Heap} {outer : List Env} {mean : ExcName → Option Value} {mg mb : Str → Option Value} {g h g' h' : Heap} {L a : Addr} {m : Str → Option Value} {news : List (Addr × Obj)} {name : Str} {scope : Scope} {cd : Value}
theorem Gr.dicts (G : Gr w A base outer mean mg mb g) (F : Fr g L h m) : KtsDicts ((envOf name scope L a cd :: outer).filterMap (·.frame)) h := fun b hb => by
  rcases kts_mem hb with rfl | hb
  · obtain ⟨o, es, ep, ho, hd, _⟩ := F.ns
    exact ⟨o, es, ep, ho, hd⟩
  · obtain ⟨o, es, n, ho, hd⟩ := G.D b hb
    exact ⟨o, es, n, F.keep _ _ ho, hd⟩
theorem after_turn (G : Gr w A base outer mean mg mb g) (XB : (KC w.params).In base) (TB : Top EMP LS mean mg mb base) (F : Fr g L h m) (N : News g L h news)
    (Tn : KtsTurn ((envOf name scope L a cd :: outer).filterMap (·.frame)) h g') (k : Kp g' h') :
    ∃ g₂, KtsTurn (outer.filterMap (·.frame)) g g₂ ∧ Fr g₂ L h' m ∧ News g₂ L h' news ∧ Gr w A base outer mean mg mb g₂ := by
  have nL : g.get? L = none := kts_self F
  obtain ⟨T₁, S₁⟩ := kts_turn_at (h := h') (fs := outer.filterMap (·.frame)) (g := g)
    (fun b hb => by
      obtain ⟨_, o, ho', _⟩ := G.B.frames.mem hb
      exact ⟨o, ho'⟩)
    (fun b o e nmem => k b o (Tn.other b o (F.keep b o e) (fun q => by
      rcases kts_mem q with z | z
      · rw [z, nL] at e
        cases e
      · exact nmem z)))
    (fun b o e hm => by
      obtain ⟨sl', hs'⟩ := Tn.up (F.keep b o e)
      exact ⟨sl', k _ _ hs'⟩)
  have B₃ : Below A base outer (ktsHeap h' (outer.filterMap (·.frame)) g) := ⟨G.B.stack, fun b o e => T₁.other b o (G.B.stays b o e) (fun hm => by
    rw [(G.B.frames.mem hm).1] at e
    cases e), G.B.frames.of_keeps fun b o e _ => by
    obtain ⟨sl', hs'⟩ := T₁.up e
    exact ⟨_, hs', rfl⟩⟩
  obtain ⟨oL, es, ep, hL, hLd, hLk, hLf⟩ := F.ns
  obtain ⟨sl, hs⟩ := Tn.up hL
  refine ⟨_, T₁, ⟨⟨_, es, ep, k _ _ hs, hLd, hLk, hLf⟩, S₁, by rw [T₁.size]; exact F.above⟩, fun p hp => ⟨?_, (N p hp).2.1, T₁.none_ _ (N p hp).2.2⟩, ⟨B₃, XB.keeps B₃.stays, TB.keeps B₃.stays, G.D.turn T₁⟩⟩
  refine k _ _ (Tn.other _ _ (N p hp).1 fun q => ?_)
  rcases kts_mem q with z | z
  · exact (N p hp).2.1 z
  · obtain ⟨_, o, ho', _⟩ := G.B.frames.mem z
    rw [(N p hp).2.2] at ho'; cases ho'
theorem turn_keeps {fs : List Addr} (D : KtsDicts fs g) (Tn : KtsTurn fs g g') {b : Addr} {o : Obj} (e : g.get? b = some o) (hd : ∀ es n, o.data ≠ .dict es n) : g'.get? b = some o :=
  Tn.other b o e fun hm => by
    obtain ⟨o', es, n, ho, hdd⟩ := D b hm
    rw [e] at ho; cases ho
    exact hd _ _ hdd
theorem turn_list {fs : List Addr} (D : KtsDicts fs g) (Tn : KtsTurn fs g g') {b : Addr} {vs : Array Value} (h : g.IsList b vs) : g'.IsList b vs := by
  obtain ⟨o, e, hc, n, hd⟩ := h
  exact ⟨o, turn_keeps D Tn e (fun es n' q => by rw [hd] at q; cases q), hc, n, hd⟩
theorem turn_tup {fs : List Addr} (D : KtsDicts fs g) (Tn : KtsTurn fs g g') {b : Addr} {vs : Array Value} (h : IsTup g b vs) : IsTup g' b vs := by
  obtain ⟨o, e, hc, n, hd⟩ := h
  exact ⟨o, turn_keeps D Tn e (fun es n' q => by rw [hd] at q; cases q), hc, n, hd⟩
end
section
variable {prog : Program} {w : World} {A : Around} {R : Result → Shared → Prop} {s : Shared} {env : Env} {target : Expr} {it : Value} {body : List Stmt}
theorem forC {n : Nat} (Inv : Nat → Shared → Prop)
    (step : ∀ i s, i < n → Inv i s → wpAny (model prog w) A (pyNext it) (fun r s₁ => ∃ v, r = some v ∧ wpAny (model prog w) A (assign target env v) (fun _ s₂ => wpC (model prog w) A (execs body env) (fun f s₃ => match f with
          | .next | .cont => Inv (i + 1) s₃
          | .brk => R (.ok .next) s₃
          | .ret v => R (.ok (.ret v)) s₃) (notedBy (model prog w) A env fun e s' => R (.error e) s') s₂) (notedBy (model prog w) A env fun e s' => R (.error e) s') s₁) (notedBy (model prog w) A env fun e s' => R (.error e) s') s)
    (done : ∀ s, Inv n s → wpAny (model prog w) A (pyNext it) (fun r s₁ => r = none ∧ R (.ok .next) s₁) (notedBy (model prog w) A env fun e s' => R (.error e) s') s)
    (h0 : Inv 0 s) (ht : ∀ v, letOwnedTupleGo target it v = pure () := by intro _; rfl) : codeC (model prog w) A (.forLoop target it body [] env) R s := by
  have key : ∀ k i s, i + k = n → Inv i s → codeC (model prog w) A (.forLoop target it body [] env) R s := by
    intro k
    induction k with
    | zero =>
      intro i s hi hI
      obtain rfl : i = n := hi
      refine codeC_forTurn (wpAny_mono (done s hI) (fun r s₁ h₁ => ?_) fun _ _ e => e) ht
      obtain ⟨rfl, h₁⟩ := h₁
      exact wpAny_execs_nil h₁
    | succ k ih =>
      intro i s hi hI
      refine codeC_forTurn (wpAny_mono (step i s (by omega) hI) (fun r s₁ h₁ => ?_) fun _ _ e => e) ht
      obtain ⟨v, rfl, h₁⟩ := h₁
      refine wpAny_mono h₁ (fun _ s₂ h₂ => wpC_mono h₂ (fun f s₃ h₃ => ?_) fun _ _ e => e) fun _ _ e => e
      cases f with
      | next => exact ih (i + 1) s₃ (by omega) h₃
      | cont => exact ih (i + 1) s₃ (by omega) h₃
      | brk => exact h₃
      | ret v => exact h₃
  exact key n 0 s (by omega) h0
end
end Mine
end

section
namespace Mine
set_option maxRecDepth 100000
set_option maxHeartbeats 1000000
set_option linter.all false
noncomputable abbrev toldMap (l p : Addr) (hs : Str) (th : Tok) (o : Option Value) : Str → Option Value := fun y =>
  if y = Str.ofString "reply" then o else List.lookup y [(Str.ofString "replies", Value.ref l), (Str.ofString "peer", Value.ref p), (Str.ofString "host", Value.str hs th)].reverse
theorem pair_reads {h : Heap} {a : Addr} {hs : Str} {th tn : Tok} {n : Int} (e : h.get? a = some (pairObj hs th n tn)) : Reads h (.ref a) (.tuple [.str hs, .int n]) [] :=
  reads_tuple_at e rfl rfl (ReadsAll.cons (Reads.str _ _) (ReadsAll.cons (Reads.int _ _) ReadsAll.nil))
theorem pair_shaped {hs : Str} (h : PyData.strOk hs = true) (n : Int) : SeqAt.shaped (.tuple [.str hs, .int n]) = true := by
  simp [h, SeqAt.shaped, PyData.canLay0, PyData.canLayAll0, PyData.depth, PyData.depthAll]
theorem eqv_pair (hs hs' : Str) (n n' : Int) : PyData.eqv (.tuple [.str hs, .int n]) (.tuple [.str hs', .int n']) = (hs == hs' && n == n') := by
  simp [PyData.eqv, PyData.eqvAll]
noncomputable def told_spec.Stm (w : World) (A : Around) (E : Value → Shared → Prop) (s : Shared) (base : Heap) (mg : Str → Option Value) (mb : Str → Option Value) (mean : ExcName → Option Value) (Q : Value → Shared → Prop) (outer : List Env) (hs : Str) (th : Tok) (p : Addr) (l : Addr) (pv : Value) (rs : List (Str × Tok)) : Prop := ∀  (B : Below A base outer s.heap) (X : (Mine.KC w.params).In s.heap) (T : Top EMP LS mean mg mb s.heap) (hh : A.handled = none) (XB : (Mine.KC w.params).In base) (TB : Top EMP LS mean mg mb base) (D : KtsDicts (outer.filterMap (·.frame)) s.heap) (hd : A.depth + 3 < recursionLimit) (hu : A.units + 100 < cLine) (hl : s.heap.IsList l (strValues rs).toArray) (hr : ∀ r ∈ rs.map (·.1), Asc r ∧ r.length ≤ 500) (hp : IsTup s.heap p #[.str hs th, pv]) (hok : PyData.strOk hs = true) (ret : ∀ g' h' tk, KtsTurn (outer.filterMap (·.frame)) s.heap g' → Kp g' h' → Q (.bool true) { s with heap := h', toks := tk }), wpC (model PROG w) A (call (.ref 150) [.ref l, .ref p, .str hs th]) Q E s
noncomputable def told_spec.cst : (World) × (Around) × (Value → Shared → Prop) × (Shared) × (Heap) × (Str → Option Value) × (Str → Option Value) × (ExcName → Option Value) × (Value → Shared → Prop) × (List Env) × (Str) × (Tok) × (Addr) × (Addr) × (Value) × (List (Str × Tok)) := eps (aWorld 0, {}, fun _ _ => True, {}, {}, fun _ => none, fun _ => none, fun _ => none, fun _ _ => True, [], Str.empty, 0, 0, 0, .none, []) (fun q => told_spec.Stm q.1 q.2.1 q.2.2.1 q.2.2.2.1 q.2.2.2.2.1 q.2.2.2.2.2.1 q.2.2.2.2.2.2.1 q.2.2.2.2.2.2.2.1 q.2.2.2.2.2.2.2.2.1 q.2.2.2.2.2.2.2.2.2.1 q.2.2.2.2.2.2.2.2.2.2.1 q.2.2.2.2.2.2.2.2.2.2.2.1 q.2.2.2.2.2.2.2.2.2.2.2.2.1 q.2.2.2.2.2.2.2.2.2.2.2.2.2.1 q.2.2.2.2.2.2.2.2.2.2.2.2.2.2.1 q.2.2.2.2.2.2.2.2.2.2.2.2.2.2.2)
namespace told_spec
noncomputable def w : World := cst.1
noncomputable def A : Around := cst.2.1
noncomputable def s : Shared := cst.2.2.2.1
noncomputable def base : Heap := cst.2.2.2.2.1
noncomputable def mg : Str → Option Value := cst.2.2.2.2.2.1
noncomputable def mb : Str → Option Value := cst.2.2.2.2.2.2.1
noncomputable def mean : ExcName → Option Value := cst.2.2.2.2.2.2.2.1
noncomputable def outer : List Env := cst.2.2.2.2.2.2.2.2.2.1
noncomputable def hs : Str := cst.2.2.2.2.2.2.2.2.2.2.1
noncomputable def th : Tok := cst.2.2.2.2.2.2.2.2.2.2.2.1
noncomputable def p : Addr := cst.2.2.2.2.2.2.2.2.2.2.2.2.1
noncomputable def l : Addr := cst.2.2.2.2.2.2.2.2.2.2.2.2.2.1
noncomputable def rs : List (Str × Tok) := cst.2.2.2.2.2.2.2.2.2.2.2.2.2.2.2
noncomputable def L' : Addr := s.heap.objs.size
theorem it : Stm w A cst.2.2.1 s base mg mb mean cst.2.2.2.2.2.2.2.2.1 outer hs th p l cst.2.2.2.2.2.2.2.2.2.2.2.2.2.2.1 rs := by
  intro  B X T hh XB TB D hd hu hl hr hp hok ret
  have hfill : (fun (_ : OpenLaw) (_ : Params → Frag) => True) PySem.Challenge.rw_nq0040_01 Mine.KC := by (k_fill; trivial)
  clear hfill
  w_top off
  k_dflt (refine' enterC0 (L := L') rfl (binds := [(Str.ofString "replies", .ref l), (Str.ofString "peer", .ref p), (Str.ofString "host", .str hs th)]) ?k1 ?k2 ?k3 ?k6 ?k7 ?k8 ?k9 ?kB ?_ ?c2 ?c3 ?c4 ?c5; (case k1 => assumption); (case k2 => assumption); (case k3 => assumption); (case k6 => k_is); (case k7 => k_is); (case k8 => omega); (case k9 => first | exact BindsTo.of_eq rfl | exact binds_K (by assumption) rfl (by k_is) rfl rfl rfl); (case c5 => decide); (case kB => exact locs rfl); (case c2 => exact rfl); (case c3 => exact rfl); (case c4 => exact rfl); k_whole)
  intro h' F' N'
  try dsimp only
  refine wpC_execs_at 0 ?_
  dsimp only [List.take, List.drop]
  k_fold
  k_steps
  refine wpC_execs_cons (wpC_For ?_)
  k_steps
  have hl1 := hl.at fun o e => F'.keep l o e
  refine wpAny_pyIter_list hl1 ?_
  have G0 : Gr w A base outer mean mg mb s.heap := ⟨B, X, T, D⟩
  refine forC (n := rs.length) (fun i s' => ∃ g h tk o, s' = { s with heap := h, toks := tk } ∧ KtsTurn (outer.filterMap (·.frame)) s.heap g ∧ Gr w A base outer mean mg mb g ∧ Fr g L' h (toldMap l p hs th o) ∧
      ∃ oi, News g L' h [(h'.objs.size, oi)] ∧ oi.cls = .type "list_iterator" ∧ oi.data = .fields #[.ref l, .int i 0]) ?_ ?_ ?_
  · rintro i s' hi ⟨g, h, tk, o, rfl, Tn, G, F, oi, N, hic, hid⟩
    obtain ⟨q, hq⟩ : ∃ q, rs[i]? = some q := ⟨_, List.getElem?_eq_getElem hi⟩
    have hra := hr q.1 (List.mem_map.mpr ⟨q, List.mem_of_getElem? hq, rfl⟩)
    have hlg := turn_list D Tn hl
    refine wpAny_pyNext_list_item ⟨oi, N.get (.head _), hic, hid⟩ (hlg.at fun o e => F.keep l o e) (x := .str q.1 q.2) (by simp [strValues, hq]) ?_
    intro h3 hit3 hs3
    refine ⟨_, rfl, ?_⟩
    have hI0 : g.get? h'.objs.size = none := N.fresh (.head _)
    have hIL : h'.objs.size ≠ L' := (N _ (.head _)).2.1
    have F3 := F.change hs3 hIL hI0
    obtain ⟨oi3, hoi3, hic3, hid3⟩ := hit3
    have N3 : News g L' h3 [(h'.objs.size, oi3)] := fun p hp => by
      rw [List.mem_singleton.mp hp]; exact ⟨hoi3, hIL, hI0⟩
    have G' := G
    obtain ⟨B2, X2, T2, D2⟩ := G'
    clear N F hs3
    walk_at "m_steps"
    rename_i h4 F4 N4
    refine wpC_execs_cons (wpC_If (wpC_isTrue_Compare (fun _ => rfl) (wpC_Call_Name ?_)))
    walk_at "m_steps"
    refine wpC_callWith1 ?_ rfl rfl
    walk_at "m_steps"
    · refine' kept_K (X2.keeps (Fr.keep (by assumption))) ?k
      case k => k_is
    · refine got_spec (G.B.push F4) (G.X.keeps F4.keep) (G.T.keeps F4.keep) hh XB TB (G.dicts F4) ?_ ?_ hra.2 hra.1 (Fr.tup F4 (turn_tup D Tn hp)) ?_
      · show A.depth + 1 + 2 < recursionLimit; omega
      · show A.units + 3 + 20 < cLine; omega
      intro v1 g' h5 tk5 Tn5 k5 hv1
      dsimp only at hv1 ⊢
      obtain ⟨g2, Tn2, F5, N5, G2⟩ := after_turn G XB TB F4 N4 Tn5 k5
      have G2' := G2
      obtain ⟨B5, X5, T5, D5⟩ := G2'
      clear X2 T2 B2 D2
      walk_at "m_steps"
      refine read_spec (G2.B.push F5) (G2.X.keeps F5.keep) (G2.T.keeps F5.keep) hh ?_ hra.2 hra.1 ?_
      · show A.depth + 1 + 2 < recursionLimit; omega
      intro v2 h6 tk6 k6 hv2
      dsimp only at hv2 ⊢
      rw [read_law hra.1 hra.2] at hv2
      have F6 := F5.keeps k6
      have N6 := N5.grown k6
      cases hpf : parseF q.1 with
      | ok n =>
        rw [hpf] at hv1 hv2
        obtain ⟨a1, tn1, rfl, hf1, hg1⟩ := hv1
        obtain ⟨a2, tn2, rfl, hf2, hg2⟩ := hv2
        dsimp only at hg1 hg2 k6
        refine wpAny_operateT ?_
        refine ne_dataH (pair_reads (k6 _ _ hg1)) (pair_reads hg2) (pair_shaped hok _) (pair_shaped hok _) ?_ ?_
        · show A.units + 3 + 64 < cLine; omega
        rw [eqv_pair]
        simp only [beq_self_eq_true, Bool.and_true, Bool.not_true]
        clear N5 F5
        walk_at "m_steps"
        refine wpC_execs_nil ?_
        dsimp only
        refine wpC_execs_nil ?_
        dsimp only
        refine ⟨_, h6, _, some (.str q.1 q.2), rfl, Tn.trans Tn2, G2, Fr.as F6 ?_, oi3, N6, hic3, hid3⟩
        (funext zz; by_cases hz0 : zz = PySem.Str.ofString "reply"; (focus (subst hz0; rfl)); (try dsimp only); (try simp only [if_neg hz0]); (try rfl))
      | reply =>
        rw [hpf] at hv1 hv2
        obtain ⟨t1, rfl⟩ := hv1
        obtain ⟨t2, rfl⟩ := hv2
        clear N5 F5
        refine wpAny_operateT ?_
        walk_at "m_steps"
        refine wpC_execs_nil ?_
        dsimp only
        refine wpC_execs_nil ?_
        dsimp only
        refine ⟨_, h6, _, some (.str q.1 q.2), rfl, Tn.trans Tn2, G2, Fr.as F6 ?_, oi3, N6, hic3, hid3⟩
        (funext zz; by_cases hz0 : zz = PySem.Str.ofString "reply"; (focus (subst hz0; rfl)); (try dsimp only); (try simp only [if_neg hz0]); (try rfl))
      | proto =>
        rw [hpf] at hv1 hv2
        obtain ⟨t1, rfl⟩ := hv1
        obtain ⟨t2, rfl⟩ := hv2
        clear N5 F5
        refine wpAny_operateT ?_
        walk_at "m_steps"
        refine wpC_execs_nil ?_
        dsimp only
        refine wpC_execs_nil ?_
        dsimp only
        refine ⟨_, h6, _, some (.str q.1 q.2), rfl, Tn.trans Tn2, G2, Fr.as F6 ?_, oi3, N6, hic3, hid3⟩
        (funext zz; by_cases hz0 : zz = PySem.Str.ofString "reply"; (focus (subst hz0; rfl)); (try dsimp only); (try simp only [if_neg hz0]); (try rfl))
      | value =>
        rw [hpf] at hv1 hv2
        obtain ⟨t1, rfl⟩ := hv1
        obtain ⟨t2, rfl⟩ := hv2
        clear N5 F5
        refine wpAny_operateT ?_
        walk_at "m_steps"
        refine wpC_execs_nil ?_
        dsimp only
        refine wpC_execs_nil ?_
        dsimp only
        refine ⟨_, h6, _, some (.str q.1 q.2), rfl, Tn.trans Tn2, G2, Fr.as F6 ?_, oi3, N6, hic3, hid3⟩
        (funext zz; by_cases hz0 : zz = PySem.Str.ofString "reply"; (focus (subst hz0; rfl)); (try dsimp only); (try simp only [if_neg hz0]); (try rfl))
  · rintro s' ⟨g, h, tk, o, rfl, Tn, G, F, oi, N, hic, hid⟩
    have hlg := turn_list D Tn hl
    refine wpAny_pyNext_list_end hh ⟨oi, N.get (.head _), hic, hid⟩ (hlg.at fun o e => F.keep l o e) (by simp [strValues]) ?_
    intro h3 he3
    refine ⟨rfl, ?_⟩
    have hI0 : g.get? h'.objs.size = none := N.fresh (.head _)
    have hIL : h'.objs.size ≠ L' := (N _ (.head _)).2.1
    have F3 : Fr g L' h3 (toldMap l p hs th o) := ⟨F.ns.at' fun o e => he3 _ o (Ne.symm hIL) e, fun b o e => he3 b o (fun q => by rw [q, hI0] at e; cases e) (F.keep b o e), F.above⟩
    have N3 : News g L' h3 [] := News.nil
    have G' := G
    obtain ⟨B2, X2, T2, D2⟩ := G'
    clear N F
    dsimp only
    refine wpC_any ?_
    walk_at "m_steps"
    dsimp only
    exact ret _ _ _ Tn F3.keep
  · refine ⟨s.heap, _, _, none, rfl, KtsTurn.refl, G0, Fr.as (F'.push _) ?_, { cls := .type "list_iterator", data := .fields #[.ref l, .int 0 0] }, ?_, rfl, rfl⟩
    · (funext zz; by_cases hz0 : zz = PySem.Str.ofString "reply"; (focus (subst hz0; rfl)); (try dsimp only); (try simp only [if_neg hz0]); (try rfl))
    · intro q hq
      rw [List.mem_singleton.mp hq]
      exact ⟨Heap.get?_push_size _ rfl, Ne.symm (Nat.ne_of_lt F'.ns.lt), next_is_new F'⟩
end told_spec
theorem told_spec {w : World} {A : Around} {E : Value → Shared → Prop} {s : Shared} {base : Heap} {mg : Str → Option Value} {mb : Str → Option Value} {mean : ExcName → Option Value} {Q : Value → Shared → Prop} {outer : List Env} {hs : Str} {th : Tok} {p : Addr} {l : Addr} {pv : Value} {rs : List (Str × Tok)} 
   (B : Below A base outer s.heap) (X : (Mine.KC w.params).In s.heap) (T : Top EMP LS mean mg mb s.heap) (hh : A.handled = none) (XB : (Mine.KC w.params).In base) (TB : Top EMP LS mean mg mb base) (D : KtsDicts (outer.filterMap (·.frame)) s.heap) (hd : A.depth + 3 < recursionLimit) (hu : A.units + 100 < cLine) (hl : s.heap.IsList l (strValues rs).toArray) (hr : ∀ r ∈ rs.map (·.1), Asc r ∧ r.length ≤ 500) (hp : IsTup s.heap p #[.str hs th, pv]) (hok : PyData.strOk hs = true) (ret : ∀ g' h' tk, KtsTurn (outer.filterMap (·.frame)) s.heap g' → Kp g' h' → Q (.bool true) { s with heap := h', toks := tk }) : wpC (model PROG w) A (call (.ref 150) [.ref l, .ref p, .str hs th]) Q E s :=
  (eps_at (G := fun q => told_spec.Stm q.1 q.2.1 q.2.2.1 q.2.2.2.1 q.2.2.2.2.1 q.2.2.2.2.2.1 q.2.2.2.2.2.2.1 q.2.2.2.2.2.2.2.1 q.2.2.2.2.2.2.2.2.1 q.2.2.2.2.2.2.2.2.2.1 q.2.2.2.2.2.2.2.2.2.2.1 q.2.2.2.2.2.2.2.2.2.2.2.1 q.2.2.2.2.2.2.2.2.2.2.2.2.1 q.2.2.2.2.2.2.2.2.2.2.2.2.2.1 q.2.2.2.2.2.2.2.2.2.2.2.2.2.2.1 q.2.2.2.2.2.2.2.2.2.2.2.2.2.2.2) (c := told_spec.cst) rfl told_spec.it (w, A, E, s, base, mg, mb, mean, Q, outer, hs, th, p, l, pv, rs) : told_spec.Stm w A E s base mg mb mean Q outer hs th p l pv rs)  B X T hh XB TB D hd hu hl hr hp hok ret
end Mine
end

section
namespace Mine
set_option maxRecDepth 100000
set_option maxHeartbeats 1000000
set_option linter.all false
inductive Wk where
  | ok (n : Int)
  | proto (r : Str)
  | value
noncomputable def walkF : List Str → Int → Wk
  | [], n => .ok n
  | r :: rs, n => match parseF r with
    | .ok m => walkF rs m
    | .value => .value
    | _ => .proto r
noncomputable def walkD (hs : Str) : Wk → PyData
  | .ok n => .tuple [.str hs, .int n]
  | .proto r => .tuple [.str (Str.ofString "proto"), .str r]
  | .value => .tuple [.str (Str.ofString "value"), .str (Str.ofString "")]
theorem walk_drop {rs : List Str} {i : Nat} {r : Str} {n : Int} (h : rs[i]? = some r) : walkF (rs.drop i) n = match parseF r with
    | .ok m => walkF (rs.drop (i + 1)) m
    | .value => .value
    | _ => .proto r := by
  rw [drop_get h]; rfl
noncomputable abbrev walkMap (l aL : Addr) (hs : Str) (th : Tok) (o1 o2 : Option Value) : Str → Option Value := fun y =>
  if y = Str.ofString "last" then some (.ref aL) else if y = Str.ofString "read" then o2 else if y = Str.ofString "reply" then o1 else
  List.lookup y [(Str.ofString "replies", Value.ref l), (Str.ofString "host", Value.str hs th)].reverse
theorem news_add {h₀ h h' : Heap} {L a : Addr} {m : Str → Option Value} {o : Obj} {news : List (Addr × Obj)} (F : Fr h₀ L h m) (hf : h.get? a = none) (hg : h'.get? a = some o) (N : News h₀ L h' news) : News h₀ L h' ((a, o) :: news) := fun p hp => by
  rcases List.mem_cons.mp hp with rfl | hp
  · refine ⟨hg, fun e => ?_, kts_none F.keep hf⟩
    obtain ⟨oL, _, _, hL, _⟩ := F.ns
    dsimp only at e
    rw [e, hL] at hf; cases hf
  · exact N p hp
theorem str_shaped {x : Str} (h : PyData.strOk x = true) : SeqAt.shaped (.str x) = true := by
  simp [SeqAt.shaped, PyData.canLay0, PyData.depth, h]
theorem eqv_tup_str (ds : List PyData) (x : Str) : PyData.eqv (.tuple ds) (.str x) = false := by simp [PyData.eqv]
noncomputable def walked_spec.Stm (w : World) (A : Around) (E : Value → Shared → Prop) (s : Shared) (base : Heap) (mg : Str → Option Value) (mb : Str → Option Value) (mean : ExcName → Option Value) (Q : Value → Shared → Prop) (outer : List Env) (hs : Str) (th : Tok) (l : Addr) (rs : List (Str × Tok)) : Prop := ∀  (B : Below A base outer s.heap) (X : (Mine.KC w.params).In s.heap) (T : Top EMP LS mean mg mb s.heap) (hh : A.handled = none) (hd : A.depth + 3 < recursionLimit) (hu : A.units + 100 < cLine) (hl : s.heap.IsList l (strValues rs).toArray) (hr : ∀ r ∈ rs.map (·.1), Asc r ∧ r.length ≤ 500 ∧ parseF r ≠ .reply) (hok : PyData.strOk hs = true) (ret : ∀ v h' tk, Kp s.heap h' → Reads h' v (walkD hs (walkF (rs.map (·.1)) 0)) [] → Q v { s with heap := h', toks := tk }), wpAny (model PROG w) A (call (.ref 164) [.ref l, .str hs th]) Q E s
noncomputable def walked_spec.cst : (World) × (Around) × (Value → Shared → Prop) × (Shared) × (Heap) × (Str → Option Value) × (Str → Option Value) × (ExcName → Option Value) × (Value → Shared → Prop) × (List Env) × (Str) × (Tok) × (Addr) × (List (Str × Tok)) := eps (aWorld 0, {}, fun _ _ => True, {}, {}, fun _ => none, fun _ => none, fun _ => none, fun _ _ => True, [], Str.empty, 0, 0, []) (fun q => walked_spec.Stm q.1 q.2.1 q.2.2.1 q.2.2.2.1 q.2.2.2.2.1 q.2.2.2.2.2.1 q.2.2.2.2.2.2.1 q.2.2.2.2.2.2.2.1 q.2.2.2.2.2.2.2.2.1 q.2.2.2.2.2.2.2.2.2.1 q.2.2.2.2.2.2.2.2.2.2.1 q.2.2.2.2.2.2.2.2.2.2.2.1 q.2.2.2.2.2.2.2.2.2.2.2.2.1 q.2.2.2.2.2.2.2.2.2.2.2.2.2)
namespace walked_spec
noncomputable def A : Around := cst.2.1
noncomputable def s : Shared := cst.2.2.2.1
noncomputable def hs : Str := cst.2.2.2.2.2.2.2.2.2.2.1
noncomputable def th : Tok := cst.2.2.2.2.2.2.2.2.2.2.2.1
noncomputable def l : Addr := cst.2.2.2.2.2.2.2.2.2.2.2.2.1
noncomputable def rs : List (Str × Tok) := cst.2.2.2.2.2.2.2.2.2.2.2.2.2
noncomputable def L' : Addr := s.heap.objs.size
theorem it : Stm cst.1 A cst.2.2.1 s cst.2.2.2.2.1 cst.2.2.2.2.2.1 cst.2.2.2.2.2.2.1 cst.2.2.2.2.2.2.2.1 cst.2.2.2.2.2.2.2.2.1 cst.2.2.2.2.2.2.2.2.2.1 hs th l rs := by
  intro  B X T hh hd hu hl hr hok ret
  have hfill : (fun (_ : OpenLaw) (_ : Params → Frag) => True) PySem.Challenge.rw_nq0040_01 Mine.KC := by (k_fill; trivial)
  clear hfill
  w_top off
  k_dflt (refine' enterP0 (L := L') rfl (binds := [(Str.ofString "replies", .ref l), (Str.ofString "host", .str hs th)]) ?k1 ?k2 ?k3 ?k6 ?k7 ?k8 ?k9 ?kB ?_ ?c2 ?c3 ?c4 ?c5; (case k1 => assumption); (case k2 => assumption); (case k3 => assumption); (case k6 => k_is); (case k7 => k_is); (case k8 => omega); (case k9 => first | exact BindsTo.of_eq rfl | exact binds_K (by assumption) rfl (by k_is) rfl rfl rfl); (case c5 => decide); (case kB => exact locs rfl); (case c2 => exact rfl); (case c3 => exact rfl); (case c4 => exact rfl); k_whole)
  intro h' F' N'
  try dsimp only
  k_fold
  refine block_at 1 (fun s' => ∃ h tk aL tn, s' = { s with heap := h, toks := tk } ∧ Fr s.heap L' h (walkMap l aL hs th none none) ∧ News s.heap L' h [(aL, pairObj hs th 0 tn)]) ?_ ?_
  · dsimp only [List.take]
    walk_at "m_steps"
    rename_i F9 N9
    refine ⟨rfl, _, _, _, _, rfl, Fr.as F9 ?_, N9⟩
    (funext zz; by_cases hz0 : zz = PySem.Str.ofString "last"; (focus (subst hz0; rfl)); by_cases hz1 : zz = PySem.Str.ofString "read"; (focus (subst hz1; rfl)); by_cases hz2 : zz = PySem.Str.ofString "reply"; (focus (subst hz2; rfl)); (try dsimp only); (try simp only [if_neg hz0]); (try simp only [if_neg hz1]); (try simp only [if_neg hz2]); (try rfl))
  · rintro s' ⟨h1, tk1, aL, tn, rfl, F1, N1⟩
    dsimp only [List.drop]
    clear F' N'
    refine wpAny_execs_cons ?_
    refine For_invVF F1 rfl rfl ?_
    walk_at "m_steps"
    refine forL (L := L') rfl (fun i m news => ∃ n aL tn o1 o2, news = [(aL, pairObj hs th n tn)] ∧ m = walkMap l aL hs th o1 o2 ∧ walkF (rs.map (·.1)) 0 = walkF ((rs.map (·.1)).drop i) n) (by exact hh) (hl.at fun o e => F1.keep l o e) ?_ F1 N1 ⟨0, aL, tn, none, none, rfl, rfl, rfl⟩ ?_ ?_ ?_
    · intro e
      obtain ⟨o, ho, _⟩ := hl
      rw [e, kts_self F1] at ho; cases ho
    · rintro _ _ _ ⟨n, aL, tn, o1, o2, rfl, _⟩
      exact NoItB.of (NoIt.cons rfl NoIt.nil)
    · rintro i v m₁ news₁ h3 tk3 own hv ⟨n, aL, tn, o1, o2, rfl, rfl, hw⟩ F3 N3 ho
      obtain ⟨r, u, hp, rfl⟩ := strValues_get hv
      dsimp only [List.cons_append, List.nil_append] at N3
      have hra := hr r (List.mem_of_getElem? hp)
      rw [walk_drop hp] at hw
      clear F1 N1
      walk_at "m_steps"
      refine read_spec (B.push F3) (X.keeps F3.keep) (T.keeps F3.keep) hh ?_ hra.2.1 hra.1 ?_
      · show A.depth + 1 + 2 < recursionLimit; omega
      intro v2 h4 tk4 k4 hv2
      dsimp only at hv2 ⊢
      rw [read_law hra.1 hra.2.1] at hv2
      have F4 := F3.keeps k4
      have N4 := N3.grown k4
      cases hpf : parseF r with
      | reply => exact absurd hpf hra.2.2
      | ok n2 =>
        rw [hpf] at hv2 hw
        obtain ⟨a2, tn2, rfl, hf2, hg2⟩ := hv2
        have N5 := news_add F3 hf2 hg2 N4
        clear N4 N3 F3
        walk_at "m_steps"
        refine eq_dataH (pair_reads (News.get (by assumption) (.head _))) (Reads.str _ _) (pair_shaped hok _) (str_shaped (by decide +kernel)) (by show A.units + 3 + 64 < cLine; omega) ?_
        rw [eqv_tup_str]
        walk_at "m_steps"
        refine eq_dataH (pair_reads (News.get (by assumption) (.head _))) (Reads.str _ _) (pair_shaped hok _) (str_shaped (by decide +kernel)) (by show A.units + 3 + 64 < cLine; omega) ?_
        rw [eqv_tup_str]
        walk_at "m_steps"
        rename_i F9 N9
        refine TurnEnd.go [(a2, pairObj hs th n2 tn2)] F9 N9 ?_ ⟨n2, a2, tn2, some (.str r u), some (.ref a2), rfl, ?_, hw⟩
        · intro q hq
          rcases List.mem_cons.mp hq with rfl | hq
          · exact .head _
          · exact .tail _ (.tail _ hq)
        · (funext zz; by_cases hz0 : zz = PySem.Str.ofString "last"; (focus (subst hz0; rfl)); by_cases hz1 : zz = PySem.Str.ofString "read"; (focus (subst hz1; rfl)); by_cases hz2 : zz = PySem.Str.ofString "reply"; (focus (subst hz2; rfl)); (try dsimp only); (try simp only [if_neg hz0]); (try simp only [if_neg hz1]); (try simp only [if_neg hz2]); (try rfl))
      | proto =>
        rw [hpf] at hv2 hw
        obtain ⟨t2, rfl⟩ := hv2
        clear N3 F3
        walk_at "m_steps"
        dsimp only [TurnEnd]
        rename_i F9 N9 _
        refine ret _ _ _ F9.keep ?_
        rw [hw]
        exact reads_tuple_at (News.get N9 (.head _)) rfl rfl (ReadsAll.cons (Reads.str _ _) (ReadsAll.cons (Reads.str _ _) ReadsAll.nil))
      | value =>
        rw [hpf] at hv2 hw
        obtain ⟨t2, rfl⟩ := hv2
        clear N3 F3
        walk_at "m_steps"
        dsimp only [TurnEnd]
        rename_i F9 N9 _
        refine ret _ _ _ F9.keep ?_
        rw [hw]
        exact reads_tuple_at (News.get N9 (.head _)) rfl rfl (ReadsAll.cons (Reads.str _ _) (ReadsAll.cons (Reads.str _ _) ReadsAll.nil))
    · rintro m₁ news₁ h3 tk3 ⟨n, aL, tn, o1, o2, rfl, rfl, hw⟩ F3 N3
      clear F1 N1
      walk_at "m_steps"
      dsimp only
      refine ret _ _ _ F3.keep ?_
      rw [hw, List.drop_of_length_le (by simp [strValues])]
      exact pair_reads (News.get N3 (.head _))
end walked_spec
theorem walked_spec {w : World} {A : Around} {E : Value → Shared → Prop} {s : Shared} {base : Heap} {mg : Str → Option Value} {mb : Str → Option Value} {mean : ExcName → Option Value} {Q : Value → Shared → Prop} {outer : List Env} {hs : Str} {th : Tok} {l : Addr} {rs : List (Str × Tok)} 
   (B : Below A base outer s.heap) (X : (Mine.KC w.params).In s.heap) (T : Top EMP LS mean mg mb s.heap) (hh : A.handled = none) (hd : A.depth + 3 < recursionLimit) (hu : A.units + 100 < cLine) (hl : s.heap.IsList l (strValues rs).toArray) (hr : ∀ r ∈ rs.map (·.1), Asc r ∧ r.length ≤ 500 ∧ parseF r ≠ .reply) (hok : PyData.strOk hs = true) (ret : ∀ v h' tk, Kp s.heap h' → Reads h' v (walkD hs (walkF (rs.map (·.1)) 0)) [] → Q v { s with heap := h', toks := tk }) : wpAny (model PROG w) A (call (.ref 164) [.ref l, .str hs th]) Q E s :=
  (eps_at (G := fun q => walked_spec.Stm q.1 q.2.1 q.2.2.1 q.2.2.2.1 q.2.2.2.2.1 q.2.2.2.2.2.1 q.2.2.2.2.2.2.1 q.2.2.2.2.2.2.2.1 q.2.2.2.2.2.2.2.2.1 q.2.2.2.2.2.2.2.2.2.1 q.2.2.2.2.2.2.2.2.2.2.1 q.2.2.2.2.2.2.2.2.2.2.2.1 q.2.2.2.2.2.2.2.2.2.2.2.2.1 q.2.2.2.2.2.2.2.2.2.2.2.2.2) (c := walked_spec.cst) rfl walked_spec.it (w, A, E, s, base, mg, mb, mean, Q, outer, hs, th, l, rs) : walked_spec.Stm w A E s base mg mb mean Q outer hs th l rs)  B X T hh hd hu hl hr hok ret
end Mine
end

section
set_option linter.all false
namespace Mine
section
variable {prog : Program} {w : World} {A : Around} {E : Value → Shared → Prop} {s : Shared} {R : Result → Shared → Prop}
theorem codeC_expr {e : Expr} {env : Env}
    (h : wpC (model prog w) (A.deeper env) (eval e env) (fun v s' => R (.ok (.ret v)) s')
      (fun e' s' => wpAny (model prog w) (A.deeper env) (leaving env e') (fun _ s'' => R (.error e') s'') (fun e'' s'' => R (.error e'') s'') s') s) :
    codeC (model prog w) A (.expr e env) R s := by
  refine codeC_of_tree ?_
  show wpC _ (A.deeper env) (do point; ret (← (eval e env).onRaise (leaving env))) _ _ s
  exact wpC_bindA (wpAny_point (wpC_bind (wpC_onRaise (wpC_mono h (fun v s' h' => wpC_pure h') fun _ _ h' => wpC_any h'))))
theorem codeC_callE {a : Addr} {args : Args} {o : Obj} {fd : FuncData} {body : Expr} (hroom : A.depth < recursionLimit)
    (ho : s.heap.get? a = some o)
    (hd' : o.data = .func fd) (hco : fd.scope.isCoroutine = false) (hgen : fd.scope.isGenerator = false) (hbody : fd.body = .expr body) (hcd : s.heap.CodeRec fd.code fd.qualname)
    (h : wpAny (model prog w) A.in1 (bindArgs fd args) (fun binds s₁ =>
      wpAny (model prog w) A.in1 (newFunctionEnv fd.scope fd.globals fd.closure binds (fd.qualname ++ ".<locals>.") (some a) fd.code none fd.builtins)
        (fun env s₂ => s₂.heap.NoLimit ∧ codeC (model prog w) A (.expr body env) R s₂) (fun e s' => R (.error e) s') s₁) (fun e s' => R (.error e) s') s) :
    codeC (model prog w) A (.call (.ref a) args) R s := by
  refine codeC_of_tree (wpC_any ?_)
  show wpAny _ A.in1 (callAny (.ref a) args) _ _ s
  simp only [callAny]
  refine wpAny_bind (wpAny_load ho ?_)
  obtain ⟨c, oc, vs, tq, hc, hoc, hdc, hq⟩ := hcd
  simp only [hd', callFunction, hco, hgen, hbody, hc]
  rw [hc] at h
  refine wpAny_bind (m := field (.ref c) 1) (wpAny_field hoc hdc hq (wpAny_bind (wpAny_pure ?_)))
  exact wpAny_bind (wpAny_mono h (fun binds s₁ h₁ => wpAny_bind (wpAny_mono h₁ (fun env s₂ h₂ => wpAny_bind (wpAny_enterFrame h₂.1 hroom
    (wpAny_pure (And.intro rfl h₂.2)))) fun _ _ h' => h')) fun _ _ h' => h')
theorem enterLam {Q : Value → Shared → Prop} {name qual : Str} {params : Arguments} {body : Expr} {scope : Scope} {pm ctv : Value} {c' f : Addr} {args : List Value} {binds : List (Str × Value)} (hnl : s.heap.NoLimit)
    (ho : s.heap.get? f = some (kla_obj name qual params body scope [] pm c' ctv)) (hcd : s.heap.CodeRec (.ref c') qual) (hroom : A.depth < recursionLimit)
    (hbind : bindArgs (kla_fn name qual params body scope [] pm (.ref c') ctv) ⟨args, []⟩ = pure binds) (hloc : ∀ y ∈ binds, scope.names.lookup y.1 = some .local)
    (h : ∀ L' h₁, Fr s.heap L' h₁ (fun y => binds.reverse.lookup y) → News s.heap L' h₁ [] →
      wpC (model prog w) (A.deeper (envOf qual scope L' f (.ref c'))) (eval body (envOf qual scope L' f (.ref c')))
        (fun v s' => Q v s')
        (fun e s' => wpAny (model prog w) (A.deeper (envOf qual scope L' f (.ref c'))) (leaving (envOf qual scope L' f (.ref c')) e) (fun _ s'' => E e s'') (fun e' s'' => E e' s'') s')
        { s with heap := h₁, toks := s.toks + binds.length })
    (hco : scope.isCoroutine = false) (hgen : scope.isGenerator = false) (hk : scope.kind = .function)
    (hcell : ∀ x ∈ scope.names, x.2 ≠ .cell) : wpC (model prog w) A (call (.ref f) args) Q E s := by
  refine wpC_call (codeC_callE hroom ho rfl hco hgen rfl hcd ?_)
  rw [hbind]
  refine wpAny_pure (wpAny_newFunctionEnv hcell hloc (fun h₀ hns₀ hsb₀ => ⟨hnl.fresh _ hsb₀, codeC_expr (h _ h₀ ⟨hns₀, fun b o e => ?_, Nat.le_refl _⟩ News.nil)⟩) hk)
  exact hsb₀.extBut b o (Nat.ne_of_lt (Heap.lt_size e)) (Heap.get?_push_of_some _ e)
end
noncomputable def KpN (h h' : Heap) : Prop := ∀ b o, h.get? b = some o → (∀ es n, o.data ≠ .dict es n) → h'.get? b = some o
noncomputable def TabSt (P : Addr) (ln cl : Nat) (qual : Str) (g h : Heap) : Prop :=
  h.get? P = some (tabObj #[]) ∨ ∃ c', h.get? P = some (tabObj #[rawInt ln, rawInt cl, .ref c']) ∧ g.CodeRec (.ref c') qual
section
variable {M : Model} {A : Around} {E : Value → Shared → Prop} {s : Shared} {h₀ : Heap} {L a c P : Addr} {m mg mb : Str → Option Value} {cn : Str} {cs : Scope} {ccd : Value}
  {p : Program} {loose : List Str} {mean : ExcName → Option Value} {params : Arguments} {body : Expr} {scope : Scope} {pos : Pos}
theorem lam_eval {Q : Value → Shared → Prop} (F : Fr h₀ L s.heap m) (T : Top p loose mean mg mb h₀) (C : CodeHd h₀ c P) (hcd : ccd = .ref c) (hP0 : h₀.get? P = none) (hPL : P ≠ L)
    (tb : TabSt P pos.line pos.col ((envOf cn cs L a ccd).qual ++ "<lambda>") h₀ s.heap)
    (hdef : defaultsOf params (envOf cn cs L a ccd) = ([], [])) (hcl : closureFor scope (envOf cn cs L a ccd) = pure [])
    (h : ∀ f c' ctv h' tk ex, Fr h₀ L h' m →
      News h₀ L h' ((f, kla_obj "<lambda>" ((envOf cn cs L a ccd).qual ++ "<lambda>") params body scope [] ((mg "__name__").getD .none) c' ctv) :: (P, tabObj #[rawInt pos.line, rawInt pos.col, .ref c']) :: ex) →
      (∀ h'' : Heap, KpN h₀ h'' → (∀ q ∈ ex, h''.get? q.1 = some q.2) → h''.CodeRec (.ref c') ((envOf cn cs L a ccd).qual ++ "<lambda>")) → Q (.ref f) { s with heap := h', toks := tk }) :
    wpAny M A (eval (.Lambda params body scope pos) (envOf cn cs L a ccd)) Q E s := by
  refine kla_eval hdef ?_
  rcases tb with tb | ⟨c', tb, hrec⟩
  · have N : News h₀ L s.heap [(P, tabObj #[])] := fun q hq => by rw [List.mem_singleton.mp hq]; exact ⟨tb, hPL, hP0⟩
    refine kla_nest (cl := []) (ps := #[]) F N T C hcd (.head (fun _ h => nomatch h)) True.intro rfl hcl ?_
    intro f c' oc vs t ctv h' tk F2 N2 hd hv l1 l2
    refine h f c' ctv h' tk [(c', oc)] F2 (fun q hq => N2 q ?_) ?_
    · simp only [List.mem_cons, List.not_mem_nil, or_false] at hq ⊢
      rcases hq with h | h | h
      · exact .inl h
      · exact .inr (.inr (by simpa using h))
      · exact .inr (.inl h)
    · intro h'' _ he
      exact ⟨c', oc, vs, t, rfl, he (c', oc) (.head _), hd, hv⟩
  · have N : News h₀ L s.heap [(P, tabObj #[rawInt pos.line, rawInt pos.col, .ref c'])] := fun q hq => by rw [List.mem_singleton.mp hq]; exact ⟨tb, hPL, hP0⟩
    refine kla_hit (cl := []) (c' := c') F N T C hcd (.head _) (by simp [TriplesOk, rawInt]) (by simp [codeAmong, rawInt]) hcl ?_
    intro f ctv h' tk F2 N2 l1
    refine h f c' ctv h' tk [] F2 N2 ?_
    intro h'' hk2 _
    obtain ⟨c2, oc, vs, t, e, hoc, hd, hv⟩ := hrec
    exact ⟨c2, oc, vs, t, e, hk2 _ _ hoc (fun es n q => by rw [hd] at q; cases q), hd, hv⟩
end
section
variable {A : Around} {base g G h : Heap} {outer : List Env} {L a e t : Addr} {m : Str → Option Value} {name : Str} {scope : Scope} {cd cls : Value} {vs : List Value} {news : List (Addr × Obj)}
theorem RaisedS.rebase (R : RaisedS base G (envOf name scope L a cd :: outer) e cls t vs [] h) (K : Below A base outer g) (F : Fr g L G m) (N : News g L G news) (U : G.UpToSlots h) :
    ∃ G', RaisedS base G' (envOf name scope L a cd :: outer) e cls t vs news h ∧ Fr g L G' m ∧ G'.UpToSlots h := by
  obtain ⟨⟨B, hB, hBG, _, hfl, hnew⟩, htup⟩ := R
  have off : ∀ q ∈ news, q.1 ∉ (envOf name scope L a cd :: outer).filterMap (·.frame) := fun q hq hm => by
    rcases kts_mem hm with z | z
    · exact (N q hq).2.1 z
    · obtain ⟨_, o, ho', _⟩ := K.frames.mem z
      rw [(N q hq).2.2] at ho'; cases ho'
  have ng : ∀ b o, g.get? b = some o → b ∉ news.map (·.1) := fun b o eb hm => by
    obtain ⟨q, hq, rfl⟩ := List.mem_map.mp hm
    rw [(N q hq).2.2] at eb; cases eb
  refine ⟨hideAll G (news.map (·.1)), ⟨⟨B, hB, fun b o eb nb => hBG b o (of_hideAll _ eb) nb, fun q hq => ⟨hBG _ _ (N q hq).1 (off q hq), hideAll_none _ (List.mem_map_of_mem hq), fresh_of_stays K.stays (N q hq).2.2⟩, hfl, hnew⟩, htup⟩, ?_, fun b o eb hd => U b o (of_hideAll _ eb) hd⟩
  obtain ⟨oL, es, ep, hL, r⟩ := F.ns
  refine ⟨⟨oL, es, ep, hideAll_get _ hL fun hm => ?_, r⟩, fun b o eb => hideAll_get _ (F.keep b o eb) (ng b o eb), F.above⟩
  obtain ⟨q, hq, z⟩ := List.mem_map.mp hm
  exact (N q hq).2.1 z
end
end Mine
end

section
namespace Mine
set_option maxRecDepth 100000
set_option maxHeartbeats 1000000
set_option linter.all false
noncomputable def LamC (w : World) (base : Heap) (mean : ExcName → Option Value) (mg mb : Str → Option Value) (hs : Str) (th : Tok) (f : Addr) (g0 : Heap) : Prop :=
  ∀ (A : Around) (outer : List Env) (s : Shared) (Q : Value → Shared → Prop) (E : Value → Shared → Prop) (p : Addr) (pv : Value) (r : Str) (u : Tok),
    Below A base outer s.heap → (KC w.params).In s.heap → Top EMP LS mean mg mb s.heap → A.handled = none → A.depth + 2 < recursionLimit → A.units + 20 < cLine → Kp g0 s.heap →
    IsTup s.heap p #[.str hs th, pv] → Asc r → r.length ≤ 500 →
    (∀ e C t' vs h' tk, ParseErr r u C vs → RaisedS base s.heap outer e C t' vs [] h' → s.heap.UpToSlots h' → E (.ref e) { s with heap := h', toks := tk }) →
    (∀ n a tn h' tk, parseF r = .ok n → Kp s.heap h' → s.heap.get? a = none → h'.get? a = some (pairObj hs th n tn) → Q (.ref a) { s with heap := h', toks := tk }) →
    wpC (model PROG w) A (call (.ref f) [.ref p, .str r u]) Q E s
noncomputable def FoldErr (k : Wk) (C : Value) (vs : List Value) : Prop := match k with
  | .proto r => C = .ref 49 ∧ ∃ u, vs = [.str r u]
  | .value => C = .type "ValueError" ∧ ∃ m tm, vs = [.str m tm]
  | .ok _ => False
theorem iter_list {prog : Program} {w : World} {A : Around} {E : Value → Shared → Prop} {s : Shared} {Q : Value → Shared → Prop} {l : Addr} {vs : Array Value} (hl : s.heap.IsList l vs)
    (h : Q (.ref s.heap.objs.size) { s with heap := s.heap.push { cls := .type "list_iterator", data := .fields #[.ref l, .int 0 0] } }) : wpAny (model prog w) A (call (.builtin "iter") [.ref l]) Q E s := by
  refine call_function_entry (by decide +kernel) (by decide +kernel) kdk_entry_iter (kdk_args_iter _) ?_
  unfold Builtin.«iter»
  refine wpAny_bind (m := someArgs "iter" 1 2 _) (wpAny_of_eq (a := [Value.ref l]) (by first | rfl | kernel_rfl!) ?_)
  dsimp only
  refine wpAny_bind (wpAny_pyIter_list hl ?_)
  exact wpAny_pure ⟨_, rfl, h⟩
theorem wpC_passesOwn {α : Type} {M : Model} {A : Around} {env : Env} {E : Value → Shared → Prop} {s : Shared} {t : Sem α} {Q : α → Shared → Prop}
    (hE : PassesOwn M A env E) (h : wpC M A t Q E s) : wpC M A t Q (notedBy M A env (cameBackBy M A env E)) s := wpC_mono h (fun _ _ x => x) hE
theorem miss_obj {P : Params} {h : Heap} (X : (KC P).In h) : ∃ o, h.get? 66 = some o ∧ o.cls = .type "object" := by
  refine' ⟨_, X 66 _ ?e, ?a⟩
  case e => delta KC; exact rfl
  case a => exact rfl
noncomputable abbrev redMap (f l p a I : Addr) (o1 : Option Value) : Str → Option Value := fun y =>
  if y = Str.ofString "value" then some (.ref a) else if y = Str.ofString "element" then o1 else if y = Str.ofString "it" then some (.ref I) else
  List.lookup y [(Str.ofString "function", Value.ref f), (Str.ofString "sequence", Value.ref l), (Str.ofString "initial", Value.ref p)].reverse
noncomputable def reduce_spec.Stm (w : World) (A : Around) (E : Value → Shared → Prop) (s : Shared) (base : Heap) (mg : Str → Option Value) (mb : Str → Option Value) (mean : ExcName → Option Value) (Q : Value → Shared → Prop) (outer : List Env) (hs : Str) (th : Tok) (t0 : Tok) (n0 : Int) (f : Addr) (l : Addr) (rs : List (Str × Tok)) (of : Obj) (fd : FuncData) : Prop := ∀ (p : Addr) (B : Below A base outer s.heap) (X : (Mine.KC w.params).In s.heap) (T : Top EMP LS mean mg mb s.heap) (hh : A.handled = none) (LC : LamC w base mean mg mb hs th f s.heap) (hof : s.heap.get? f = some of) (hfd : of.data = .func fd) (hd : A.depth + 4 < recursionLimit) (hu : A.units + 100 < cLine) (hl : s.heap.IsList l (strValues rs).toArray) (hr : ∀ r ∈ rs.map (·.1), Asc r ∧ r.length ≤ 500 ∧ parseF r ≠ .reply) (hp : IsTup s.heap p #[.str hs th, .int n0 t0]) (err : ∀ e C t' vs h' tk, FoldErr (walkF (rs.map (·.1)) n0) C vs → RaisedS base s.heap outer e C t' vs [] h' → s.heap.UpToSlots h' → E (.ref e) { s with heap := h', toks := tk }) (ret : ∀ n a tn h' tk, walkF (rs.map (·.1)) n0 = .ok n → Kp s.heap h' → IsTup h' a #[.str hs th, .int n tn] → Q (.ref a) { s with heap := h', toks := tk }), wpC (model PROG w) A (call (.ref 74) [.ref f, .ref l, .ref p]) Q E s
noncomputable def reduce_spec.cst : (World) × (Around) × (Value → Shared → Prop) × (Shared) × (Heap) × (Str → Option Value) × (Str → Option Value) × (ExcName → Option Value) × (Value → Shared → Prop) × (List Env) × (Str) × (Tok) × (Tok) × (Int) × (Addr) × (Addr) × (List (Str × Tok)) × (Obj) × (FuncData) := eps (aWorld 0, {}, fun _ _ => True, {}, {}, fun _ => none, fun _ => none, fun _ => none, fun _ _ => True, [], Str.empty, 0, 0, 0, 0, 0, [], ⟨.none, none, .plain, #[]⟩, default) (fun q => reduce_spec.Stm q.1 q.2.1 q.2.2.1 q.2.2.2.1 q.2.2.2.2.1 q.2.2.2.2.2.1 q.2.2.2.2.2.2.1 q.2.2.2.2.2.2.2.1 q.2.2.2.2.2.2.2.2.1 q.2.2.2.2.2.2.2.2.2.1 q.2.2.2.2.2.2.2.2.2.2.1 q.2.2.2.2.2.2.2.2.2.2.2.1 q.2.2.2.2.2.2.2.2.2.2.2.2.1 q.2.2.2.2.2.2.2.2.2.2.2.2.2.1 q.2.2.2.2.2.2.2.2.2.2.2.2.2.2.1 q.2.2.2.2.2.2.2.2.2.2.2.2.2.2.2.1 q.2.2.2.2.2.2.2.2.2.2.2.2.2.2.2.2.1 q.2.2.2.2.2.2.2.2.2.2.2.2.2.2.2.2.2.1 q.2.2.2.2.2.2.2.2.2.2.2.2.2.2.2.2.2.2)
namespace reduce_spec
noncomputable def A : Around := cst.2.1
noncomputable def E : Value → Shared → Prop := cst.2.2.1
noncomputable def s : Shared := cst.2.2.2.1
noncomputable def hs : Str := cst.2.2.2.2.2.2.2.2.2.2.1
noncomputable def th : Tok := cst.2.2.2.2.2.2.2.2.2.2.2.1
noncomputable def t0 : Tok := cst.2.2.2.2.2.2.2.2.2.2.2.2.1
noncomputable def n0 : Int := cst.2.2.2.2.2.2.2.2.2.2.2.2.2.1
noncomputable def f : Addr := cst.2.2.2.2.2.2.2.2.2.2.2.2.2.2.1
noncomputable def l : Addr := cst.2.2.2.2.2.2.2.2.2.2.2.2.2.2.2.1
noncomputable def rs : List (Str × Tok) := cst.2.2.2.2.2.2.2.2.2.2.2.2.2.2.2.2.1
noncomputable def L' : Addr := s.heap.objs.size
theorem it : Stm cst.1 A E s cst.2.2.2.2.1 cst.2.2.2.2.2.1 cst.2.2.2.2.2.2.1 cst.2.2.2.2.2.2.2.1 cst.2.2.2.2.2.2.2.2.1 cst.2.2.2.2.2.2.2.2.2.1 hs th t0 n0 f l rs cst.2.2.2.2.2.2.2.2.2.2.2.2.2.2.2.2.2.1 cst.2.2.2.2.2.2.2.2.2.2.2.2.2.2.2.2.2.2 := by
  intro p B X T hh LC hof hfd hd hu hl hr hp err ret
  have hfill : (fun (_ : OpenLaw) (_ : Params → Frag) => True) PySem.Challenge.rw_nq0040_01 Mine.KC := by (k_fill; trivial)
  clear hfill
  w_top off
  k_dflt (refine' enterC0 (L := L') rfl (binds := [(Str.ofString "function", .ref f), (Str.ofString "sequence", .ref l), (Str.ofString "initial", .ref p)]) ?k1 ?k2 ?k3 ?k6 ?k7 ?k8 ?k9 ?kB ?_ ?c2 ?c3 ?c4 ?c5; (case k1 => assumption); (case k2 => assumption); (case k3 => assumption); (case k6 => k_is); (case k7 => k_is); (case k8 => omega); (case k9 => first | exact BindsTo.of_eq rfl | exact binds_K (by assumption) rfl (by k_is) rfl rfl rfl); (case c5 => decide); (case kB => exact locs rfl); (case c2 => exact rfl); (case c3 => exact rfl); (case c4 => exact rfl); k_whole)
  intro h' F' N'
  try dsimp only
  refine wpC_execs_at 2 ?_
  dsimp only [List.take, List.drop]
  k_fold
  walk_at "m_steps"
  refine iter_list (hl.at fun o e => F'.keep l o e) ?_
  have F1 := F'.push { cls := .type "list_iterator", data := .fields #[.ref l, .int 0 0] }
  have N1 : News s.heap L' (h'.push { cls := .type "list_iterator", data := .fields #[.ref l, .int 0 0] }) [(h'.objs.size, { cls := .type "list_iterator", data := .fields #[.ref l, .int 0 0] })] := fun q hq => by
    rw [List.mem_singleton.mp hq]
    exact ⟨Heap.get?_push_size _ rfl, Ne.symm (Nat.ne_of_lt F'.ns.lt), next_is_new F'⟩
  dsimp only
  generalize h'.push { cls := .type "list_iterator", data := .fields #[.ref l, .int 0 0] } = h1 at *
  clear F' N'
  walk_at "m_steps"
  rename_i h2 F2 N2
  obtain ⟨o66, h66, hc66⟩ := miss_obj (X.keeps F2.keep)
  obtain ⟨op, hop, hopc, _⟩ := id hp
  refine wpAny_bind (PySem.SeqAt.wpAny_isSame_ref_other' ?_ (F2.keep _ _ hop) h66 (by rw [hc66]; decide) (wpAny_pure ?_))
  · rintro rfl
    rw [F2.keep _ _ hop] at h66; cases h66; rw [hopc] at hc66; exact absurd hc66 (by decide)
  generalize h'.objs.size = I at *
  walk_at "m_steps"
  rename_i h3 F3 N3
  refine wpC_execs_cons (wpC_For ?_)
  walk_at "m_steps"
  refine wpAny_pyIter_listiter ⟨_, N3.get (.head _), rfl, rfl⟩ ?_
  refine forC (n := rs.length) (fun i s' => ∃ h tk n a tn oi o1 vl, s' = { s with heap := h, toks := tk } ∧ walkF (rs.map (·.1)) n0 = walkF ((rs.map (·.1)).drop i) n ∧ Fr s.heap L' h (redMap f l p a I o1) ∧ News s.heap L' h (vl ++ [(I, oi)]) ∧
     (∀ q ∈ vl, q.1 ≠ I) ∧ oi.cls = .type "list_iterator" ∧ oi.data = .fields #[.ref l, .int i 0] ∧ (∀ h' : Heap, Kp s.heap h' → (∀ q ∈ vl, h'.get? q.1 = some q.2) → IsTup h' a #[.str hs th, .int n tn])) ?_ ?_ ?_
  · rintro i s' hi ⟨h, tk, n, a, tn, oi, o1, vl, rfl, hw, F, N, hvl, hic, hid, ht⟩
    obtain ⟨q, hq⟩ : ∃ q, rs[i]? = some q := ⟨_, List.getElem?_eq_getElem hi⟩
    have hra := hr q.1 (List.mem_map.mpr ⟨q, List.mem_of_getElem? hq, rfl⟩)
    rw [walk_drop (r := q.1) (by rw [List.getElem?_map, hq]; rfl)] at hw
    have hmI : (I, oi) ∈ vl ++ [(I, oi)] := List.mem_append_right _ (.head _)
    refine wpAny_pyNext_list_item ⟨oi, N.get hmI, hic, hid⟩ (hl.at fun o e => F.keep l o e) (x := .str q.1 q.2) (by simp [strValues, hq]) ?_
    intro h3 hit3 hs3
    refine ⟨_, rfl, ?_⟩
    have hI0 : s.heap.get? I = none := N.fresh hmI
    have hIL : I ≠ L' := (N _ hmI).2.1
    have F3 := F.change hs3 hIL hI0
    obtain ⟨oi3, hoi3, hic3, hid3⟩ := hit3
    have N3 : News s.heap L' h3 (vl ++ [(I, oi3)]) := fun p hp => by
      rcases List.mem_append.mp hp with hp | hp
      · have := N p (List.mem_append_left _ hp)
        exact ⟨hs3.extBut _ _ (hvl p hp) this.1, this.2⟩
      · rw [List.mem_singleton.mp hp]; exact ⟨hoi3, hIL, hI0⟩
    clear N F hs3
    walk_at "m_steps"
    rename_i h4 F4 N4
    refine wpC_passesOwn (E := ek) (by passes_own) ?_
    refine wpC_execs_cons (wpC_Assign_Name (wpC_Call_Name ?_) rfl)
    walk_at "m_steps"
    refine wpC_callWith1 ?_ rfl rfl
    walk_at "m_steps"
    · exact kept_fn (F4.keep _ _ hof) hfd
    · have hta : IsTup h4 a #[.str hs th, .int n tn] := ht h4 F4.keep fun q hq => (N4 q (List.mem_append_left _ hq)).1
      refine LC _ _ _ _ _ a _ q.1 q.2 (B.push F4) (X.keeps F4.keep) (T.keeps F4.keep) hh ?_ ?_ F4.keep hta hra.1 hra.2.1 ?_ ?_
      · show A.depth + 1 + 2 < recursionLimit; omega
      · show A.units + 3 + 20 < cLine; omega
      · intro e C t' vs h' tk hpe R U
        dsimp only
        refine leave_onS B F4 R U ?_
        intro h5 R5 _ U5
        dsimp only
        refine err _ _ _ _ _ _ ?_ R5 U5
        rw [hw]
        unfold ParseErr at hpe
        cases hpf : parseF q.1 with
        | reply => exact absurd hpf hra.2.2
        | ok n => rw [hpf] at hpe; exact hpe.elim
        | proto => rw [hpf] at hpe; exact ⟨hpe.1, _, hpe.2⟩
        | value => rw [hpf] at hpe; exact hpe
      · intro n2 a2 tn2 h5 tk5 hok hk hf hg
        dsimp only
        rw [hok] at hw
        have F5 := F4.keeps hk
        have N5 := news_add F4 hf hg (N4.grown hk)
        have hne : a2 ≠ I := fun e => by
          have := (N4 (I, oi3) (List.mem_append_right _ (.head _))).1
          dsimp only at this
          rw [← e, hf] at this; cases this
        walk_at "m_steps"
        rename_i h6 F6 N6
        refine wpC_execs_nil ?_
        dsimp only
        refine ⟨h6, _, n2, a2, tn2, oi3, some (.str q.1 q.2), [(a2, pairObj hs th n2 tn2)], rfl, hw, Fr.as F6 ?_, ?_, ?_, hic3, hid3, ?_⟩
        · (funext zz; by_cases hz0 : zz = PySem.Str.ofString "value"; (focus (subst hz0; rfl)); by_cases hz1 : zz = PySem.Str.ofString "element"; (focus (subst hz1; rfl)); by_cases hz2 : zz = PySem.Str.ofString "it"; (focus (subst hz2; rfl)); (try dsimp only); (try simp only [if_neg hz0]); (try simp only [if_neg hz1]); (try simp only [if_neg hz2]); (try rfl))
        · intro z hz
          rcases List.mem_cons.mp hz with rfl | hz
          · exact N6 _ (.head _)
          · exact N6 z (.tail _ (List.mem_append_right _ hz))
        · intro z hz
          rw [List.mem_singleton.mp hz]; exact hne
        · intro h7 _ h8
          exact ⟨_, h8 _ (.head _), rfl, _, rfl⟩
  · rintro s' ⟨h, tk, n, a, tn, oi, o1, vl, rfl, hw, F, N, hvl, hic, hid, ht⟩
    have hmI : (I, oi) ∈ vl ++ [(I, oi)] := List.mem_append_right _ (.head _)
    refine wpAny_pyNext_list_end hh ⟨oi, N.get hmI, hic, hid⟩ (hl.at fun o e => F.keep l o e) (by simp [strValues]) ?_
    intro h3 he3
    refine ⟨rfl, ?_⟩
    have hI0 : s.heap.get? I = none := N.fresh hmI
    have hIL : I ≠ L' := (N _ hmI).2.1
    have F3 : Fr s.heap L' h3 (redMap f l p a I o1) := ⟨F.ns.at' fun o e => he3 _ o (Ne.symm hIL) e, fun b o e => he3 b o (fun q => by rw [q, hI0] at e; cases e) (F.keep b o e), F.above⟩
    have hta : IsTup h3 a #[.str hs th, .int n tn] := ht h3 F3.keep fun q hq => he3 _ _ (hvl q hq) (N q (List.mem_append_left _ hq)).1
    have N3 : News s.heap L' h3 [] := News.nil
    clear N F
    dsimp only
    refine wpC_any ?_
    walk_at "m_steps"
    dsimp only
    refine ret n _ tn _ _ ?_ F3.keep hta
    rw [hw, List.drop_of_length_le (by simp)]; rfl
  · refine ⟨h3, _, n0, p, t0, _, none, [], rfl, rfl, Fr.as F3 ?_, N3, (fun _ hq => nomatch hq), rfl, rfl, ?_⟩
    · (funext zz; by_cases hz0 : zz = PySem.Str.ofString "value"; (focus (subst hz0; rfl)); by_cases hz1 : zz = PySem.Str.ofString "element"; (focus (subst hz1; rfl)); by_cases hz2 : zz = PySem.Str.ofString "it"; (focus (subst hz2; rfl)); (try dsimp only); (try simp only [if_neg hz0]); (try simp only [if_neg hz1]); (try simp only [if_neg hz2]); (try rfl))
    · intro h7 hk _
      obtain ⟨o, ho, r⟩ := hp
      exact ⟨o, hk _ _ ho, r⟩
end reduce_spec
theorem reduce_spec {w : World} {A : Around} {E : Value → Shared → Prop} {s : Shared} {base : Heap} {mg : Str → Option Value} {mb : Str → Option Value} {mean : ExcName → Option Value} {Q : Value → Shared → Prop} {outer : List Env} {hs : Str} {th : Tok} {t0 : Tok} {n0 : Int} {f : Addr} {l : Addr} {rs : List (Str × Tok)} {of : Obj} {fd : FuncData} {p : Addr}
   (B : Below A base outer s.heap) (X : (Mine.KC w.params).In s.heap) (T : Top EMP LS mean mg mb s.heap) (hh : A.handled = none) (LC : LamC w base mean mg mb hs th f s.heap) (hof : s.heap.get? f = some of) (hfd : of.data = .func fd) (hd : A.depth + 4 < recursionLimit) (hu : A.units + 100 < cLine) (hl : s.heap.IsList l (strValues rs).toArray) (hr : ∀ r ∈ rs.map (·.1), Asc r ∧ r.length ≤ 500 ∧ parseF r ≠ .reply) (hp : IsTup s.heap p #[.str hs th, .int n0 t0]) (err : ∀ e C t' vs h' tk, FoldErr (walkF (rs.map (·.1)) n0) C vs → RaisedS base s.heap outer e C t' vs [] h' → s.heap.UpToSlots h' → E (.ref e) { s with heap := h', toks := tk }) (ret : ∀ n a tn h' tk, walkF (rs.map (·.1)) n0 = .ok n → Kp s.heap h' → IsTup h' a #[.str hs th, .int n tn] → Q (.ref a) { s with heap := h', toks := tk }) : wpC (model PROG w) A (call (.ref 74) [.ref f, .ref l, .ref p]) Q E s :=
  (eps_at (G := fun q => reduce_spec.Stm q.1 q.2.1 q.2.2.1 q.2.2.2.1 q.2.2.2.2.1 q.2.2.2.2.2.1 q.2.2.2.2.2.2.1 q.2.2.2.2.2.2.2.1 q.2.2.2.2.2.2.2.2.1 q.2.2.2.2.2.2.2.2.2.1 q.2.2.2.2.2.2.2.2.2.2.1 q.2.2.2.2.2.2.2.2.2.2.2.1 q.2.2.2.2.2.2.2.2.2.2.2.2.1 q.2.2.2.2.2.2.2.2.2.2.2.2.2.1 q.2.2.2.2.2.2.2.2.2.2.2.2.2.2.1 q.2.2.2.2.2.2.2.2.2.2.2.2.2.2.2.1 q.2.2.2.2.2.2.2.2.2.2.2.2.2.2.2.2.1 q.2.2.2.2.2.2.2.2.2.2.2.2.2.2.2.2.2.1 q.2.2.2.2.2.2.2.2.2.2.2.2.2.2.2.2.2.2) (c := reduce_spec.cst) rfl reduce_spec.it (w, A, E, s, base, mg, mb, mean, Q, outer, hs, th, t0, n0, f, l, rs, of, fd) : reduce_spec.Stm w A E s base mg mb mean Q outer hs th t0 n0 f l rs of fd) p B X T hh LC hof hfd hd hu hl hr hp err ret
end Mine
end

section
namespace Mine
set_option maxRecDepth 100000
set_option maxHeartbeats 1000000
set_option linter.all false
theorem codeHd_folded {P : Params} {h : Heap} (X : (KC P).In h) : CodeHd h 156 152 := by
  refine' ⟨_, _, _, _, _, _, _, _, _, X 156 _ ?e, ?a, ?b, ?c, ?d, ?f, ?g, ?i, ?j, ?k⟩
  case e => delta KC; exact rfl
  case a => exact rfl
  case b => exact rfl
  case c => exact rfl
  case d => exact rfl
  case f => exact rfl
  case g => exact rfl
  case i => exact rfl
  case j => exact rfl
  case k => decide
noncomputable abbrev lamQual : Str := Str.ofString "_law_folded" ++ ".<locals>." ++ "<lambda>"
noncomputable def folded_spec.Stm (w : World) (A : Around) (E : Value → Shared → Prop) (s : Shared) (base : Heap) (mg : Str → Option Value) (mb : Str → Option Value) (mean : ExcName → Option Value) (Q : Value → Shared → Prop) (outer : List Env) (hs : Str) (th : Tok) (t0 : Tok) (n0 : Int) (l : Addr) (p : Addr) (rs : List (Str × Tok)) (g : Heap) : Prop := ∀  (B : Below A base outer s.heap) (X : (Mine.KC w.params).In s.heap) (T : Top EMP LS mean mg mb s.heap) (hh : A.handled = none) (G : Gr w A base outer mean mg mb g) (XB : (Mine.KC w.params).In base) (TB : Top EMP LS mean mg mb base) (hg : Kp g s.heap) (hsz : g.objs.size ≤ s.heap.objs.size) (h152 : g.get? 152 = none) (htab : TabSt 152 159 22 lamQual g s.heap) (hd : A.depth + 5 < recursionLimit) (hu : A.units + 200 < cLine) (hl : g.IsList l (strValues rs).toArray) (hr : ∀ r ∈ rs.map (·.1), Asc r ∧ r.length ≤ 500 ∧ parseF r ≠ .reply) (hp : IsTup g p #[.str hs th, .int n0 t0]) (ret : ∀ v g' h' tk c', KtsTurn (outer.filterMap (·.frame)) g g' → Kp g' h' → h'.get? 152 = some (tabObj #[rawInt 159, rawInt 22, .ref c']) → h'.CodeRec (.ref c') lamQual → Reads h' v (walkD hs (walkF (rs.map (·.1)) n0)) [] → Q v { s with heap := h', toks := tk }), wpC (model PROG w) A (call (.ref 157) [.ref l, .ref p]) Q E s
noncomputable def folded_spec.cst : (World) × (Around) × (Value → Shared → Prop) × (Shared) × (Heap) × (Str → Option Value) × (Str → Option Value) × (ExcName → Option Value) × (Value → Shared → Prop) × (List Env) × (Str) × (Tok) × (Tok) × (Int) × (Addr) × (Addr) × (List (Str × Tok)) × (Heap) := eps (aWorld 0, {}, fun _ _ => True, {}, {}, fun _ => none, fun _ => none, fun _ => none, fun _ _ => True, [], Str.empty, 0, 0, 0, 0, 0, [], {}) (fun q => folded_spec.Stm q.1 q.2.1 q.2.2.1 q.2.2.2.1 q.2.2.2.2.1 q.2.2.2.2.2.1 q.2.2.2.2.2.2.1 q.2.2.2.2.2.2.2.1 q.2.2.2.2.2.2.2.2.1 q.2.2.2.2.2.2.2.2.2.1 q.2.2.2.2.2.2.2.2.2.2.1 q.2.2.2.2.2.2.2.2.2.2.2.1 q.2.2.2.2.2.2.2.2.2.2.2.2.1 q.2.2.2.2.2.2.2.2.2.2.2.2.2.1 q.2.2.2.2.2.2.2.2.2.2.2.2.2.2.1 q.2.2.2.2.2.2.2.2.2.2.2.2.2.2.2.1 q.2.2.2.2.2.2.2.2.2.2.2.2.2.2.2.2.1 q.2.2.2.2.2.2.2.2.2.2.2.2.2.2.2.2.2)
namespace folded_spec
noncomputable def w : World := cst.1
noncomputable def A : Around := cst.2.1
noncomputable def s : Shared := cst.2.2.2.1
noncomputable def hs : Str := cst.2.2.2.2.2.2.2.2.2.2.1
noncomputable def th : Tok := cst.2.2.2.2.2.2.2.2.2.2.2.1
noncomputable def t0 : Tok := cst.2.2.2.2.2.2.2.2.2.2.2.2.1
noncomputable def n0 : Int := cst.2.2.2.2.2.2.2.2.2.2.2.2.2.1
noncomputable def l : Addr := cst.2.2.2.2.2.2.2.2.2.2.2.2.2.2.1
noncomputable def p : Addr := cst.2.2.2.2.2.2.2.2.2.2.2.2.2.2.2.1
noncomputable def rs : List (Str × Tok) := cst.2.2.2.2.2.2.2.2.2.2.2.2.2.2.2.2.1
noncomputable def g : Heap := cst.2.2.2.2.2.2.2.2.2.2.2.2.2.2.2.2.2
noncomputable def L' : Addr := s.heap.objs.size
theorem it : Stm w A cst.2.2.1 s cst.2.2.2.2.1 cst.2.2.2.2.2.1 cst.2.2.2.2.2.2.1 cst.2.2.2.2.2.2.2.1 cst.2.2.2.2.2.2.2.2.1 cst.2.2.2.2.2.2.2.2.2.1 hs th t0 n0 l p rs g := by
  intro  B X T hh G XB TB hg hsz h152 htab hd hu hl hr hp ret
  have hfill : (fun (_ : OpenLaw) (_ : Params → Frag) => True) PySem.Challenge.rw_nq0040_01 Mine.KC := by (k_fill; trivial)
  clear hfill
  w_top off
  k_dflt (refine' enterC0 (L := L') rfl (binds := [(Str.ofString "replies", .ref l), (Str.ofString "peer", .ref p)]) ?k1 ?k2 ?k3 ?k6 ?k7 ?k8 ?k9 ?kB ?_ ?c2 ?c3 ?c4 ?c5; (case k1 => assumption); (case k2 => assumption); (case k3 => assumption); (case k6 => k_is); (case k7 => k_is); (case k8 => omega); (case k9 => first | exact BindsTo.of_eq rfl | exact binds_K (by assumption) rfl (by k_is) rfl rfl rfl); (case c5 => decide); (case kB => exact locs rfl); (case c2 => exact rfl); (case c3 => exact rfl); (case c4 => exact rfl); k_whole)
  intro h' F' N'
  try dsimp only
  refine wpC_execs_at 0 ?_
  dsimp only [List.take, List.drop]
  k_fold
  have F0 : Fr g L' h' _ := ⟨F'.ns, fun b o e => F'.keep b o (hg b o e), Nat.le_trans hsz F'.above⟩
  have h0 : ∃ o, s.heap.get? 152 = some o := by rcases htab with h | ⟨c', h, _⟩ <;> exact ⟨_, h⟩
  have hPL : (152 : Addr) ≠ L' := fun e => by
    obtain ⟨o, ho⟩ := h0
    have := kts_self F'
    rw [← e, ho] at this; cases this
  have htab' : TabSt 152 159 22 lamQual g h' := by
    rcases htab with h | ⟨c', h, r⟩
    · exact .inl (F'.keep _ _ h)
    · exact .inr ⟨c', F'.keep _ _ h, r⟩
  have N0 : News g L' h' [] := News.nil
  have G' := G
  obtain ⟨B2, X2, T2, D2⟩ := G'
  clear X T B F' N'
  walk_at "m_steps"
  refine wpC_execs_cons (wpC_Try ?_)
  refine wpC_execs_cons (wpC_Return (wpC_Call_Name ?_))
  walk_at "m_steps"
  refine wpC_callWith1 ?_ rfl rfl
  walk_at "m_steps"
  refine lam_eval F0 T2 (codeHd_folded X2) rfl h152 hPL htab' rfl rfl ?_
  intro f c' ctv h2 tk2 ex F2 N2 hcr
  clear F0 N0
  walk_at "m_steps"
  · refine' kept_K (X2.keeps (Fr.keep (by assumption))) ?k
    case k => k_is
  · refine reduce_spec (hs := hs) (th := th) (n0 := n0) (t0 := t0) (rs := rs) (B2.push F2) (X2.keeps F2.keep) (T2.keeps F2.keep) hh ?lc (N2.get (.head _)) rfl ?_ ?_ (hl.at fun o e => F2.keep l o e) hr (Fr.tup F2 hp) ?er ?re
    case lc =>
      intro A3 outer3 s3 Q3 E3 p3 pv3 r3 u3 B3 X3 T3 hh3 hd3 hu3 hk3 htup3 ha3 hx3 err3 ret3
      have hex : ∀ q ∈ ex, s3.heap.get? q.1 = some q.2 := fun q hq => hk3 _ _ (N2 q (.tail _ (.tail _ hq))).1
      refine enterLam (binds := [(Str.ofString "so", .ref p3), (Str.ofString "reply", .str r3 u3)]) T3.nolimit (hk3 _ _ (N2.get (.head _))) (hcr s3.heap (fun b o e _ => hk3 _ _ (F2.keep b o e)) hex) (by omega) rfl (locs rfl) ?_ rfl rfl rfl (by decide)
      intro L4 h4 F4 N4
      clear X2 T2 B2 D2 F2 N2
      refine wpC_Call_Name ?_
      walk_at "m_steps"
      refine wpC_callWith1 ?_ rfl rfl
      walk_at "m_steps"
      · refine' kept_K (X3.keeps (Fr.keep (by assumption))) ?k
        case k => k_is
      · refine parse_spec (B3.push F4) (X3.keeps F4.keep) (T3.keeps F4.keep) hh3 ?_ ?_ hx3 ha3 (Fr.tup F4 htup3) ?_ ?_
        · show A3.depth + 1 + 1 < recursionLimit; omega
        · show A3.units + 3 + 8 < cLine; omega
        · intro e C t' vs h5 tk5 hpe R U
          refine leave_onS B3 F4 R U ?_
          intro h6 R6 _ U6
          exact err3 _ _ _ _ _ _ hpe R6 U6
        · intro n a tn h5 tk5 hok hk hf hg
          exact ret3 n a tn _ _ hok (fun b o q => hk _ _ (F4.keep b o q)) (kts_none F4.keep hf) hg
    · show A.depth + 1 + 4 < recursionLimit; omega
    · show A.units + 3 + 100 < cLine; omega
    case er =>
      intro e C t' vs h3 tk3 hfe R U
      dsimp only
      obtain ⟨G3, R3, F3, U3⟩ := Mine.RaisedS.rebase R B2 F2 N2 U
      refine kts_lookS R3 F3 B2 U3 D2 ?_
      clear R U R3 U3
      intro h4 R U
      unfold FoldErr at hfe
      cases hwk : walkF (rs.map (·.1)) n0 with
      | ok n => rw [hwk] at hfe; exact hfe.elim
      | proto r =>
        rw [hwk] at hfe ret
        obtain ⟨rfl, u, rfl⟩ := hfe
        refine' hit_SB R F3 B2 U XB TB D2 KtsTurn.refl (test_name (c := .ref 49) ?n1 ?n2 rfl rfl ?n3) ?_
        case n1 => exact .inl (by k_is)
        case n2 => exact rfl
        case n3 => decide
        intro h5 g5 news5 tk5 T5 F5 N5 G5 NN B5 X5 P5 D5
        have NM : News g5 L' h5 ((152, tabObj #[rawInt 159, rawInt 22, .ref c']) :: (ex ++ news5)) := fun q hq => by
          rcases List.mem_cons.mp hq with rfl | hq
          · exact NN _ (.tail _ (.head _))
          · rcases List.mem_append.mp hq with hq | hq
            · exact NN q (.tail _ (.tail _ hq))
            · exact N5 q hq
        have OE := OwnExc.of_got N5 G5
        clear N5 NN G5
        walk_at "m_steps"
        refine' str_own_one (K := Mine.KC w.params) ?u (X5.keeps F5.keep) OE ?f ?b ?_
        case u => show A.units + 3 + 2 < cLine; omega
        case f => first | k_is | rfl
        case b => first | k_is | rfl
        walk_at "m_steps"
        rename_i F9 N9
        refine ret _ g5 _ _ c' T5 F9.keep (N9.get (.tail _ (.head _))) (hcr _ (fun b o q hdd => F9.keep b o (turn_keeps D2 T5 q hdd)) fun q hq => (N9 q (.tail _ (.tail _ (List.mem_append_left _ hq)))).1) ?_
        exact reads_tuple_at (News.get N9 (.head _)) rfl rfl (ReadsAll.cons (Reads.str _ _) (ReadsAll.cons (Reads.str _ _) ReadsAll.nil))
      | value =>
        rw [hwk] at hfe ret
        obtain ⟨rfl, m, tm, rfl⟩ := hfe
        refine' pass_S R F3 B2 U XB TB D2 (test_name (c := .ref 49) ?n1 ?n2 rfl rfl ?n3) ?_
        case n1 => exact .inl (by k_is)
        case n2 => exact rfl
        case n3 => decide
        clear R U
        intro h4 R U
        refine' hit_S0 R F3 B2 U XB TB D2 KtsTurn.refl (test_name (c := .type "ValueError") ?n1 ?n2 rfl rfl ?n3) ?_
        case n1 => exact .inr ⟨by k_is, PyProof.Rows.Boot.«ValueError», by decide⟩
        case n2 => exact rfl
        case n3 => decide
        intro h5 g5 news5 T5 F5 N5 G5 NN B5 X5 P5 D5
        have NM : News g5 L' h5 ((152, tabObj #[rawInt 159, rawInt 22, .ref c']) :: ex) := fun q hq => by
          rcases List.mem_cons.mp hq with rfl | hq
          · exact NN _ (.tail _ (.head _))
          · exact NN q (.tail _ (.tail _ hq))
        clear N5 NN G5
        walk_at "m_steps"
        rename_i F9 N9 _
        refine ret _ g5 _ _ c' T5 F9.keep (N9.get (.tail _ (.head _))) (hcr _ (fun b o q hdd => F9.keep b o (turn_keeps D2 T5 q hdd)) fun q hq => (N9 q (.tail _ (.tail _ hq))).1) ?_
        exact reads_tuple_at (News.get N9 (.head _)) rfl rfl (ReadsAll.cons (Reads.str _ _) (ReadsAll.cons (Reads.str _ _) ReadsAll.nil))
    case re =>
      intro n a tn h3 tk3 hok hk hta
      dsimp only
      refine ret _ g _ _ c' KtsTurn.refl (fun b o q => hk _ _ (F2.keep b o q)) (hk _ _ (N2.get (.tail _ (.head _)))) (hcr _ (fun b o q _ => hk _ _ (F2.keep b o q)) fun q hq => hk _ _ (N2 q (.tail _ (.tail _ hq))).1) ?_
      rw [hok]
      obtain ⟨o, ho, hc, k, hdd⟩ := hta
      exact reads_tuple_at ho hc hdd (ReadsAll.cons (Reads.str _ _) (ReadsAll.cons (Reads.int _ _) ReadsAll.nil))
end folded_spec
theorem folded_spec {w : World} {A : Around} {E : Value → Shared → Prop} {s : Shared} {base : Heap} {mg : Str → Option Value} {mb : Str → Option Value} {mean : ExcName → Option Value} {Q : Value → Shared → Prop} {outer : List Env} {hs : Str} {th : Tok} {t0 : Tok} {n0 : Int} {l : Addr} {p : Addr} {rs : List (Str × Tok)} {g : Heap} 
   (B : Below A base outer s.heap) (X : (Mine.KC w.params).In s.heap) (T : Top EMP LS mean mg mb s.heap) (hh : A.handled = none) (G : Gr w A base outer mean mg mb g) (XB : (Mine.KC w.params).In base) (TB : Top EMP LS mean mg mb base) (hg : Kp g s.heap) (hsz : g.objs.size ≤ s.heap.objs.size) (h152 : g.get? 152 = none) (htab : TabSt 152 159 22 lamQual g s.heap) (hd : A.depth + 5 < recursionLimit) (hu : A.units + 200 < cLine) (hl : g.IsList l (strValues rs).toArray) (hr : ∀ r ∈ rs.map (·.1), Asc r ∧ r.length ≤ 500 ∧ parseF r ≠ .reply) (hp : IsTup g p #[.str hs th, .int n0 t0]) (ret : ∀ v g' h' tk c', KtsTurn (outer.filterMap (·.frame)) g g' → Kp g' h' → h'.get? 152 = some (tabObj #[rawInt 159, rawInt 22, .ref c']) → h'.CodeRec (.ref c') lamQual → Reads h' v (walkD hs (walkF (rs.map (·.1)) n0)) [] → Q v { s with heap := h', toks := tk }) : wpC (model PROG w) A (call (.ref 157) [.ref l, .ref p]) Q E s :=
  (eps_at (G := fun q => folded_spec.Stm q.1 q.2.1 q.2.2.1 q.2.2.2.1 q.2.2.2.2.1 q.2.2.2.2.2.1 q.2.2.2.2.2.2.1 q.2.2.2.2.2.2.2.1 q.2.2.2.2.2.2.2.2.1 q.2.2.2.2.2.2.2.2.2.1 q.2.2.2.2.2.2.2.2.2.2.1 q.2.2.2.2.2.2.2.2.2.2.2.1 q.2.2.2.2.2.2.2.2.2.2.2.2.1 q.2.2.2.2.2.2.2.2.2.2.2.2.2.1 q.2.2.2.2.2.2.2.2.2.2.2.2.2.2.1 q.2.2.2.2.2.2.2.2.2.2.2.2.2.2.2.1 q.2.2.2.2.2.2.2.2.2.2.2.2.2.2.2.2.1 q.2.2.2.2.2.2.2.2.2.2.2.2.2.2.2.2.2) (c := folded_spec.cst) rfl folded_spec.it (w, A, E, s, base, mg, mb, mean, Q, outer, hs, th, t0, n0, l, p, rs, g) : folded_spec.Stm w A E s base mg mb mean Q outer hs th t0 n0 l p rs g)  B X T hh G XB TB hg hsz h152 htab hd hu hl hr hp ret
end Mine
end

section
namespace Mine
set_option maxRecDepth 100000
set_option maxHeartbeats 1000000
set_option linter.all false
noncomputable def shortF (x : Str) : Str := if x.length < 80 then x else Txt.slice x none (some 80) ++ Str.ofString " [truncated]..."
theorem short_spec {w : World} {A : Around} {E : Value → Shared → Prop} {s : Shared} {base : Heap} {mg mb : Str → Option Value} {mean : ExcName → Option Value} {Q : Value → Shared → Prop} {outer : List Env} {x : Str} {t : Tok}
   (B : Below A base outer s.heap) (X : (Mine.KC w.params).In s.heap) (T : Top EMP LS mean mg mb s.heap) (hh : A.handled = none) (hd : A.depth + 1 < recursionLimit) (hx : x.length ≤ 500)
   (ret : ∀ t' h' tk, Kp s.heap h' → Q (.str (shortF x) t') { s with heap := h', toks := tk }) : wpAny (model PROG w) A (call (.ref 122) [.str x t]) Q E s := by
  have hfill : (fun (_ : OpenLaw) (_ : Params → Frag) => True) PySem.Challenge.rw_nq0040_01 Mine.KC := by (k_fill; trivial)
  clear hfill
  w_top off
  k_dflt (refine' enterP (binds := [(Str.ofString "written", .str x t)]) ?k1 ?k2 ?k3 ?k6 ?k7 ?k8 ?k9 ?kB ?_ ?c2 ?c3 ?c4 ?c5; (case k1 => assumption); (case k2 => assumption); (case k3 => assumption); (case k6 => k_is); (case k7 => k_is); (case k8 => omega); (case k9 => first | exact BindsTo.of_eq rfl | exact binds_K (by assumption) rfl (by k_is) rfl rfl rfl); (case c5 => decide); (case kB => exact locs rfl); (case c2 => exact rfl); (case c3 => exact rfl); (case c4 => exact rfl); k_whole)
  intro L' h' F' N'
  try dsimp only
  k_fold
  walk_at "m_steps"
  · have e : shortF x = x := by unfold shortF; rw [if_pos (by omega)]
    rw [e] at ret
    exact ret _ _ _ F'.keep
  · have e : shortF x = Txt.slice x none (some 80) ++ Str.ofString " [truncated]..." := by unfold shortF; rw [if_neg (by omega)]
    rw [e] at ret
    exact ret _ _ _ (Fr.keep (by assumption))
theorem cmp3_spec {w : World} {A : Around} {E : Value → Shared → Prop} {s : Shared} {base : Heap} {mg mb : Str → Option Value} {mean : ExcName → Option Value} {Q : Value → Shared → Prop} {outer : List Env} {a b : Int} {t u : Tok}
   (B : Below A base outer s.heap) (X : (Mine.KC w.params).In s.heap) (T : Top EMP LS mean mg mb s.heap) (hh : A.handled = none) (hd : A.depth + 1 < recursionLimit)
   (ret : ∀ t' h' tk, Kp s.heap h' → Q (.int (b2i (decide (b < a)) - b2i (decide (a < b))) t') { s with heap := h', toks := tk }) : wpAny (model PROG w) A (call (.ref 96) [.int a t, .int b u]) Q E s := by
  have hfill : (fun (_ : OpenLaw) (_ : Params → Frag) => True) PySem.Challenge.rw_nq0040_01 Mine.KC := by (k_fill; trivial)
  clear hfill
  w_top off
  k_dflt (refine' enterP (binds := [(Str.ofString "x", .int a t), (Str.ofString "y", .int b u)]) ?k1 ?k2 ?k3 ?k6 ?k7 ?k8 ?k9 ?kB ?_ ?c2 ?c3 ?c4 ?c5; (case k1 => assumption); (case k2 => assumption); (case k3 => assumption); (case k6 => k_is); (case k7 => k_is); (case k8 => omega); (case k9 => first | exact BindsTo.of_eq rfl | exact binds_K (by assumption) rfl (by k_is) rfl rfl rfl); (case c5 => decide); (case kB => exact locs rfl); (case c2 => exact rfl); (case c3 => exact rfl); (case c4 => exact rfl); k_whole)
  intro L' h' F' N'
  try dsimp only
  k_fold
  walk_at "m_steps"
  dsimp only
  exact ret _ _ _ F'.keep
theorem fall_spec {w : World} {A : Around} {E : Value → Shared → Prop} {s : Shared} {base : Heap} {mg mb : Str → Option Value} {mean : ExcName → Option Value} {Q : Value → Shared → Prop} {outer : List Env} {x y : Str} {t u : Tok} {n k : Int}
   (B : Below A base outer s.heap) (X : (Mine.KC w.params).In s.heap) (T : Top EMP LS mean mg mb s.heap) (hh : A.handled = none) (hd : A.depth + 2 < recursionLimit) (hx : x.length ≤ 500) (hy : y.length ≤ 500) (hn : parseF x = .ok n) (hk : parseF y = .ok k)
   (ret : ∀ t' h' tk, Kp s.heap h' → Q (.int (b2i (decide (n < k)) - b2i (decide (k < n))) t') { s with heap := h', toks := tk }) : wpAny (model PROG w) A (call (.ref 171) [.str x t, .str y u]) Q E s := by
  have hfill : (fun (_ : OpenLaw) (_ : Params → Frag) => True) PySem.Challenge.rw_nq0040_01 Mine.KC := by (k_fill; trivial)
  clear hfill
  w_top off
  k_dflt (refine' enterP (binds := [(Str.ofString "one", .str x t), (Str.ofString "other", .str y u)]) ?k1 ?k2 ?k3 ?k6 ?k7 ?k8 ?k9 ?kB ?_ ?c2 ?c3 ?c4 ?c5; (case k1 => assumption); (case k2 => assumption); (case k3 => assumption); (case k6 => k_is); (case k7 => k_is); (case k8 => omega); (case k9 => first | exact BindsTo.of_eq rfl | exact binds_K (by assumption) rfl (by k_is) rfl rfl rfl); (case c5 => decide); (case kB => exact locs rfl); (case c2 => exact rfl); (case c3 => exact rfl); (case c4 => exact rfl); k_whole)
  intro L' h' F' N'
  try dsimp only
  k_fold
  walk_at "m_steps"
  rename_i D1 h1 F1 N1 _
  refine parse_ok1 (hs := Str.ofString "") (B.push F1) (X.keeps F1.keep) (T.keeps F1.keep) hh ?_ hy hk (News.isTup N1 (.head _)) ?_
  · show A.depth + 1 + 1 < recursionLimit; omega
  intro a2 tn2 h2 tk2 k2 hf2 hg2
  dsimp only
  have F2 := F1.keeps k2
  have N2 := news_add F1 hf2 hg2 (N1.grown k2)
  clear F1 N1
  walk_at "m_steps"
  rename_i D3 h3 F3 N3 _
  refine parse_ok1 (hs := Str.ofString "") (B.push F3) (X.keeps F3.keep) (T.keeps F3.keep) hh ?_ hx hn (News.isTup N3 (.head _)) ?_
  · show A.depth + 1 + 1 < recursionLimit; omega
  intro a4 tn4 h4 tk4 k4 hf4 hg4
  dsimp only
  have F4 := F3.keeps k4
  have N4 := news_add F3 hf4 hg4 (N3.grown k4)
  clear F3 N3
  walk_at "m_steps"
  refine cmp3_spec (B.push F4) (X.keeps F4.keep) (T.keeps F4.keep) hh ?_ ?_
  · show A.depth + 1 + 1 < recursionLimit; omega
  intro t5 h5 tk5 k5
  dsimp only
  have F5 := F4.keeps k5
  have N5 := N4.grown k5
  clear F4 N4
  walk_at "m_steps"
  exact ret _ _ _ F5.keep
end Mine
end

section
namespace Mine
set_option maxRecDepth 100000
set_option maxHeartbeats 1000000
set_option linter.all false
theorem safe_spec {w : World} {A : Around} {E : Value → Shared → Prop} {s : Shared} {base : Heap} {mg mb : Str → Option Value} {mean : ExcName → Option Value} {Q : Value → Shared → Prop} {outer : List Env} {a : Addr} {d : PyData} {as : List Addr}
   (B : Below A base outer s.heap) (X : (Mine.KC w.params).In s.heap) (T : Top EMP LS mean mg mb s.heap) (hh : A.handled = none) (hd : A.depth + 1 < recursionLimit) (hg : A.guards = some []) (hu : A.units + 100 < cLine) (hv : Reads s.heap (.ref a) d as) (hshow : d.showable = true) (hsm : d.hasDict = true → sysModules ∉ as) (hdep : d.depth ≤ 10) (hlen : d.shown.length ≤ 500)
   (ret : ∀ t' h' tk, Kp s.heap h' → Q (.str (shortF d.shown) t') { s with heap := h', toks := tk }) : wpAny (model PROG w) A (call (.ref 82) [.ref a, .bool true]) Q E s := by
  have hfill : (fun (_ : OpenLaw) (_ : Params → Frag) => True) PySem.Challenge.rw_nq0040_01 Mine.KC := by (k_fill; trivial)
  clear hfill
  w_top off
  k_dflt (refine' enterP (binds := [(Str.ofString "obj", .ref a), (Str.ofString "short", .bool true)]) ?k1 ?k2 ?k3 ?k6 ?k7 ?k8 ?k9 ?kB ?_ ?c2 ?c3 ?c4 ?c5; (case k1 => assumption); (case k2 => assumption); (case k3 => assumption); (case k6 => k_is); (case k7 => k_is); (case k8 => omega); (case k9 => first | exact BindsTo.of_eq rfl | exact binds_K (by assumption) rfl (by k_is) rfl rfl rfl); (case c5 => decide); (case kB => exact locs rfl); (case c2 => exact rfl); (case c3 => exact rfl); (case c4 => exact rfl); k_whole)
  intro L' h' F' N'
  try dsimp only
  k_fold
  walk_at "m_steps"
  refine repr_of_reads' hv hshow hsm hg ?_ F'.keep ?_ ?_
  · show A.units + 3 + (d.depth + 1) < cLine; omega
  · intro h1 u tk1 hk1
    have F1 := F'.keeps hk1
    have N1 : News s.heap L' h1 [] := News.nil
    dsimp only
    generalize d.shown = x at *
    clear F' N'
    walk_at "m_steps"
    · have e : shortF x = x := by unfold shortF; rw [if_pos (by omega)]
      rw [e] at ret
      dsimp only
      exact ret _ _ _ (Fr.keep (by assumption))
    · have e : shortF x = Txt.slice x none (some 80) ++ Str.ofString " [truncated]..." := by unfold shortF; rw [if_neg (by omega)]
      rw [e] at ret
      dsimp only
      exact ret _ _ _ (Fr.keep (by assumption))
  · rw [sizeLine_eq]; omega
theorem safe1_spec {w : World} {A : Around} {E : Value → Shared → Prop} {s : Shared} {base : Heap} {mg mb : Str → Option Value} {mean : ExcName → Option Value} {Q : Value → Shared → Prop} {outer : List Env} {a : Addr} {d : PyData} {as : List Addr}
   (B : Below A base outer s.heap) (X : (Mine.KC w.params).In s.heap) (T : Top EMP LS mean mg mb s.heap) (hh : A.handled = none) (hd : A.depth + 1 < recursionLimit) (hg : A.guards = some []) (hu : A.units + 100 < cLine) (hv : Reads s.heap (.ref a) d as) (hshow : d.showable = true) (hsm : d.hasDict = true → sysModules ∉ as) (hdep : d.depth ≤ 10) (hlen : d.shown.length ≤ 500)
   (ret : ∀ t' h' tk, Kp s.heap h' → Q (.str d.shown t') { s with heap := h', toks := tk }) : wpAny (model PROG w) A (call (.ref 82) [.ref a]) Q E s := by
  have hfill : (fun (_ : OpenLaw) (_ : Params → Frag) => True) PySem.Challenge.rw_nq0040_01 Mine.KC := by (k_fill; trivial)
  clear hfill
  w_top off
  k_dflt (refine' enterP (binds := [(Str.ofString "obj", .ref a), (Str.ofString "short", .bool false)]) ?k1 ?k2 ?k3 ?k6 ?k7 ?k8 ?k9 ?kB ?_ ?c2 ?c3 ?c4 ?c5; (case k1 => assumption); (case k2 => assumption); (case k3 => assumption); (case k6 => k_is); (case k7 => k_is); (case k8 => omega); (case k9 => first | exact BindsTo.of_eq rfl | exact binds_K (by assumption) rfl (by k_is) rfl rfl rfl); (case c5 => decide); (case kB => exact locs rfl); (case c2 => exact rfl); (case c3 => exact rfl); (case c4 => exact rfl); k_whole)
  intro L' h' F' N'
  try dsimp only
  k_fold
  walk_at "m_steps"
  refine repr_of_reads' hv hshow hsm hg ?_ F'.keep ?_ ?_
  · show A.units + 3 + (d.depth + 1) < cLine; omega
  · intro h1 u tk1 hk1
    have F1 := F'.keeps hk1
    have N1 : News s.heap L' h1 [] := News.nil
    dsimp only
    generalize d.shown = x at *
    clear F' N'
    walk_at "m_steps"
    dsimp only
    exact ret _ _ _ (Fr.keep (by assumption))
  · rw [sizeLine_eq]; omega
end Mine
end

section
set_option linter.all false
namespace Mine
section
open LCg
variable {prog : Program} {w : World} {A : Around} {E : Value → Shared → Prop} {s : Shared} {h₀ : Heap} {L : Addr} {m : Str → Option Value} {env : Env}
theorem ListComp_tup {elt iter : Expr} {x : Str} {px : Pos} {scope : Scope} {cl : List (Str × Addr)} {pos : Pos} {Q : Value → Shared → Prop} {ax : Addr} {its : Array Value} {news : List (Addr × Obj)} (hh : A.handled = none)
    (ht : h₀.IsTuple ax its) (hsz : its.size ≤ sizeLine)
    (hclos : closureFor scope env = pure cl) (hcell : ∀ y ∈ scope.names, y.2 ≠ .cell) (hkind : scope.kind = .function)
    (hnames : ∀ y ∈ scope.names, y.2 = .local → scope.names.lookup y.1 = some .local) (hx : scope.names.lookup x = some .local)
    (h : wpAny (model prog w) A (eval iter env) (fun xv s₁ => xv = .ref ax ∧ Fr h₀ L s₁.heap m ∧ News h₀ L s₁.heap news ∧
      ∀ g, LCg.CompRest prog w A h₀ L m env elt x scope cl { s₁ with heap := g } (fun _ => True) (fun i v => its[i]? = some v) (FinE h₀ L m { s₁ with heap := g } Q) its.size 0 [] news) E s)
    (hs : ∀ x, foldedSetIterable iter env x = pure x := by intro _; rfl) :
    wpAny (model prog w) A (eval (.ListComp elt [⟨.Name x px, iter, [], 0⟩] scope pos) env) Q E s := by
  rw [eval_ListComp]
  refine wpAny_comprehension_free (use := none) rfl hs hclos hkind hnames (wpAny_mono h (fun xv s₁ h₁ => ?_) fun _ _ e => e)
  obtain ⟨rfl, F, N, R⟩ := h₁
  have hl : s₁.heap.IsTuple ax its := ht.at fun o e => F.keep ax o e
  have hlt : ax < s₁.heap.objs.size := by obtain ⟨_, e, _⟩ := hl; exact Heap.lt_size e
  refine wpAny_pyIter_tuple hl ?_
  have up : ∀ b o, s₁.heap.get? b = some o → (s₁.heap.push { cls := .type "tuple_iterator", data := .fields #[.ref ax, .int 0 0] }).get? b = some o := fun b o e => Heap.get?_push_of_some _ e
  refine block_U (Walks.tuple hh s₁.heap.objs.size ax (Nat.ne_of_lt hlt) its) hsz (fun i h st => by obtain ⟨o, e, _⟩ := st.1; exact ⟨o, e⟩)
    (fun i h h' o nw st e e' k _ _ => ⟨by obtain ⟨o', q, r⟩ := st.1; rw [e] at q; cases q; exact ⟨o, e', r⟩, ht.at fun o e => k ax o e⟩) hcell hkind hx ⟨⟨_, Heap.get?_push_size _ rfl, rfl, rfl⟩, hl.at fun o e => up ax o e⟩ (fun b hb => ?_)
    (F.keeps up) (N.grown up) (Nat.ne_of_lt F.ns.lt) (next_is_new F) (fun p hp => Nat.ne_of_lt (Heap.lt_size (N p hp).1)) trivial (R _) ?_
  · show b < (s₁.heap.push _).objs.size
    rw [Heap.size_push]
    rcases List.mem_cons.mp hb with rfl | hb
    · exact Nat.lt_succ_self _
    · rw [List.mem_singleton.mp hb]; exact Nat.lt_succ_of_lt hlt
  · intro D C h tk m' ys news' F' N' o1 hn hC₀ hD₀ hCL hDL hCD offC fin
    refine ⟨m', hn, fun h'' hs'' => fin D h'' tk (F'.change hs'' hCL hC₀) (fun p hp => ?_) o1⟩
    refine ⟨hs''.extBut _ _ ?_ (N' p hp).1, (N' p hp).2⟩
    rcases List.mem_cons.mp hp with rfl | hp
    · exact Ne.symm hCD
    · exact offC p hp
end
end Mine
end

section
set_option linter.all false
namespace Mine
section
variable {prog : Program} {w : World} {A : Around} {E : Value → Shared → Prop} {s : Shared} {K : Frag} {Q : Value → Shared → Prop} {p : Program} {loose : List Str} {mean : ExcName → Option Value} {mg mb : Str → Option Value}
  {name qual : Str} {params : Arguments} {body : List Stmt} {scope : Scope} {dV kV doc pm cdv ct oc : Value} {an od : Option Addr} {osl : Array (Option Value)} {f : Addr} {args : List Value} {binds : List (Str × Value)}
theorem enterPX (X₀ : K.In s.heap) (T : Top p loose mean mg mb s.heap)
    (ho : K.lookup f = some ⟨oc, od, .func (fnOf name qual params body scope dV kV doc pm an cdv ct), osl⟩) (hcd : codeIn K cdv qual = true) (hroom : A.depth < recursionLimit)
    (hbind : BindsTo s (fnOf name qual params body scope dV kV doc pm an cdv ct) ⟨args, []⟩ binds)
    (hkind : ∀ n, ∀ x ∈ binds, scope.names.lookup x.1 = some .local ∨ (scope.names.lookup x.1 = some .cell ∧ ((cellsFrom n scope.names []).lookup x.1).isSome = true))
    (hnd : ((cellsFrom 0 scope.names []).map (·.1)).Nodup)
    (h : ∀ L' h₁ tk cells, Fr s.heap L' h₁ (bindL (envOfC qual scope L' f cdv).kindOf binds fun _ => none) → News s.heap L' h₁ cells →
      CellsAre (bindC (envOfC qual scope L' f cdv).kindOf binds fun _ => none) (cellsFrom (L' + 1) scope.names []) cells →
      wpAny (model prog w) (A.deeper (envOfC qual scope L' f cdv)) (execs body (envOfC qual scope L' f cdv))
        (fun fl s' => Q (match fl with | .ret v => v | _ => .none) s')
        (fun e s' => wpAny (model prog w) (A.deeper (envOfC qual scope L' f cdv)) (leaving (envOfC qual scope L' f cdv) e) (fun _ s'' => E e s'') (fun e' s'' => E e' s'') s')
        { s with heap := h₁, toks := tk })
    (hco : scope.isCoroutine = false) (hgen : scope.isGenerator = false) (hk : scope.kind = .function) : wpAny (model prog w) A (call (.ref f) args) Q E s := by
  refine wpAny_call (codeAny_call_function hroom (X₀ _ _ ho) rfl hco hgen rfl (codeRec_of X₀ hcd) (hbind _ _ _ _ ?_))
  refine wpAny_newFunctionEnv_cells hk (hkind _) fun env' he s' x => ?_
  subst he
  refine ⟨T.nolimit.keeps x.toInCall.keep, codeAny_func ?_⟩
  obtain ⟨h₁, tk, rfl, _⟩ := x.done
  have hk₁ := x.toInCall.keep
  obtain ⟨cells, NC, Y⟩ := Cl.news (h₀ := s.heap) (Nat.le_refl _) fun n c hm => ⟨x.cell n c (lookup_of_mem_nodup (cellsFrom_names scope.names 0 (s.heap.objs.size + 1) [] [] rfl ▸ hnd) hm), x.above n c hm⟩
  exact h s.heap.objs.size h₁ tk cells ⟨x.toInCall.ns, hk₁, Nat.le_refl _⟩ NC Y
end
end Mine
end

section
open Builtin Builtin.Str
set_option linter.all false
namespace Mine
noncomputable def subF (c : Nat) (z : List Nat) (l : List Nat) : List Nat := l.flatMap fun k => if k = c then z else [k]
theorem subF_free (c : Nat) (z : List Nat) : ∀ l : List Nat, c ∉ l → subF c z l = l
  | [], _ => rfl
  | k :: r, h => by
    have h1 : ¬ k = c := fun e => h (e ▸ List.mem_cons_self ..)
    have ih := subF_free c z r (fun m => h (List.mem_cons_of_mem _ m))
    unfold subF at ih ⊢
    rw [List.flatMap_cons, if_neg h1, ih]; rfl
theorem subF_append (c : Nat) (z a b : List Nat) : subF c z (a ++ b) = subF c z a ++ subF c z b := by unfold subF; rw [List.flatMap_append]
theorem subF_join (c : Nat) (z : Str) : ∀ parts : List Str, (∀ p ∈ parts, c ∉ p.cps.toList) → subF c z.cps.toList (Str.join ⟨#[c]⟩ parts).cps.toList = (Str.join z parts).cps.toList
  | [], _ => rfl
  | [p], h => subF_free c _ _ (h p (List.mem_singleton.mpr rfl))
  | p :: q :: r, h => by
    have ih := subF_join c z (q :: r) fun a ha => h a (List.mem_cons_of_mem _ ha)
    show subF c z.cps.toList (p ++ ⟨#[c]⟩ ++ Str.join ⟨#[c]⟩ (q :: r)).cps.toList = (p ++ z ++ Str.join z (q :: r)).cps.toList
    simp only [Str.cps_append, Array.toList_append]
    rw [subF_append, subF_append, ih, subF_free c _ _ (h p (List.mem_cons_self ..))]
    congr 2
    simp [subF]
theorem replace_sub (x z : Str) (c : Nat) : (Txt.replace x ⟨#[c]⟩ z).cps.toList = subF c z.cps.toList x.cps.toList := by
  rw [StrLaws.replace_one, ← subF_join c z _ (StrLaws.split_free x c), StrLaws.join_split]
theorem subF_len (c : Nat) (z : List Nat) (n : Nat) (hz : z.length ≤ n) (hn : 1 ≤ n) : ∀ l : List Nat, (subF c z l).length ≤ n * l.length
  | [] => by simp [subF]
  | k :: r => by
    have ih := subF_len c z n hz hn r
    unfold subF at ih ⊢
    rw [List.flatMap_cons, List.length_append, List.length_cons, Nat.mul_succ]
    have : (if k = c then z else [k]).length ≤ n := by
      split
      · exact hz
      · exact hn
    (first | lia | omega)
theorem replace_len (x y z : Str) (c : Nat) (n : Nat) (hy : y = ⟨#[c]⟩) (hz : z.length ≤ n) (hn : 1 ≤ n) : (Txt.replace x y z).length ≤ n * x.length := by
  subst hy
  have := subF_len c z.cps.toList n (by simpa [Str.length] using hz) hn x.cps.toList
  rw [← replace_sub] at this
  simpa [Str.length] using this
theorem repr_list (x : Str) : (reprText x).cps.toList = reprQuote x :: (x.cps.toList.flatMap (reprChar (reprQuote x))) ++ [reprQuote x] := by
  have key : ∀ (q : Nat) (l : List Nat) (acc : Array Nat), (l.foldl (fun out c => out ++ (reprChar q c).toArray) acc).toList = acc.toList ++ l.flatMap (reprChar q) := by
    intro q l
    induction l with
    | nil => intro acc; simp
    | cons c r ih => intro acc; rw [List.foldl_cons, ih]; simp
  unfold reprText
  simp only [Array.toList_push, ← Array.foldl_toList]
  rw [key]; simp
theorem printable_asc (c : Nat) (h : 32 ≤ c ∧ c < 127) : Unicode.isPrintable c = true := by
  have : ∀ c : Fin 127, 32 ≤ c.val → Unicode.isPrintable c.val = true := by decide +kernel
  exact this ⟨c, h.2⟩ h.1
theorem reprChar_asc (q c : Nat) (h : 32 ≤ c ∧ c < 127) : reprChar q c = if c = q ∨ c = 92 then [92, c] else [c] := by
  unfold reprChar
  have h1 : (c == 10) = false := by simp; (first | lia | omega)
  have h2 : (c == 13) = false := by simp; (first | lia | omega)
  have h3 : (c == 9) = false := by simp; (first | lia | omega)
  rw [h1, h2, h3, printable_asc c h]
  by_cases h : c = q ∨ c = 92
  · rw [if_pos h, if_pos (by simpa using h)]
  · rw [if_neg h, if_neg (by simpa using h)]; rfl
theorem sub_twice (q : Nat) (hq : q ≠ 92) : ∀ l : List Nat, (∀ c ∈ l, 32 ≤ c ∧ c < 127) → subF q [92, q] (subF 92 [92, 92] l) = l.flatMap (reprChar q)
  | [], _ => rfl
  | k :: r, h => by
    have ih := sub_twice q hq r fun c hc => h c (List.mem_cons_of_mem _ hc)
    have e : subF 92 [92, 92] (k :: r) = (if k = 92 then [92, 92] else [k]) ++ subF 92 [92, 92] r := rfl
    rw [e, subF_append, ih, List.flatMap_cons, reprChar_asc q k (h k (List.mem_cons_self ..))]
    congr 1
    by_cases h1 : k = 92
    · subst h1; simp [subF, Ne.symm hq]
    · by_cases h2 : k = q
      · subst h2; simp [subF, h1]
      · simp [subF, h1, h2]
theorem written_str (x : Str) (ha : Asc x) (m b1 b2 bm : Str) (q : Nat) (hm : m = ⟨#[q]⟩) (hb1 : b1 = ⟨#[92]⟩) (hb2 : b2 = ⟨#[92, 92]⟩) (hq : reprQuote x = q) :
    m ++ Txt.replace (Txt.replace x b1 b2) m (b1 ++ m) ++ m = reprText x := by
  have hq92 : q ≠ 92 := by subst hq; unfold reprQuote; split <;> decide
  subst hm hb1 hb2
  apply congrArg Str.mk (a₁ := (_ : Str).cps) (a₂ := (reprText x).cps)
  apply Array.toList_inj.mp
  rw [repr_list]
  simp only [Str.cps_append, Array.toList_append]
  rw [replace_sub, replace_sub, hq, ← sub_twice q hq92 _ ha]
  simp [Str.cps_append]
theorem reprText_asc {x : Str} (h : Asc x) : Asc (reprText x) := by
  intro c hc
  rw [repr_list] at hc
  have hq : 32 ≤ reprQuote x ∧ reprQuote x < 127 := by unfold reprQuote; split <;> decide
  rcases List.mem_cons.mp hc with rfl | hc
  · exact hq
  · rcases List.mem_append.mp hc with hc | hc
    · obtain ⟨k, hk, hck⟩ := List.mem_flatMap.mp hc
      rw [reprChar_asc _ _ (h k hk)] at hck
      have := h k hk
      split at hck
      · simp at hck; rcases hck with rfl | rfl <;> (first | lia | omega)
      · simp at hck; (first | lia | omega)
    · simp at hc; (first | lia | omega)
theorem reprText_len2 {x : Str} (h : Asc x) : (reprText x).length ≤ 2 * x.length + 2 := by
  have e : (reprText x).length = (reprText x).cps.toList.length := by simp [Str.length]
  have key : ∀ l : List Nat, (∀ c ∈ l, 32 ≤ c ∧ c < 127) → (l.flatMap (reprChar (reprQuote x))).length ≤ 2 * l.length := by
    intro l
    induction l with
    | nil => simp
    | cons k r ih =>
      intro hl
      have := ih fun c hc => hl c (List.mem_cons_of_mem _ hc)
      rw [List.flatMap_cons, List.length_append, reprChar_asc _ _ (hl k (List.mem_cons_self ..)), List.length_cons]
      split <;> simp only [List.length_cons, List.length_nil] <;> (first | lia | omega)
  rw [e, repr_list]
  have := key _ h
  simp only [List.length_cons, List.length_append, List.length_nil]
  have e2 : x.length = x.cps.toList.length := by simp [Str.length]
  (first | lia | omega)
end Mine
end

section
namespace Mine
set_option maxRecDepth 100000
set_option maxHeartbeats 1000000
set_option linter.all false
section
variable {prog : Program} {w : World} {A : Around} {E : Value → Shared → Prop} {s : Shared} {x y z : Str} {t u v : Tok} {Q : Value → Shared → Prop}
theorem replaceT (c : Nat) (hy : y = ⟨#[c]⟩) (hu : u ≠ 0) (hv : v ≠ 0) (huv : u ≠ v) (hyz : (y == z) = false) (hx : x.length ≤ 1048576) (hz : z.length ≤ 2)
    (hq : ∀ t' k, s.toks ≤ k → (Txt.replace x y z).length ≤ 2 * x.length → Q (.str (Txt.replace x y z) t') { s with toks := k }) : wpAny (model prog w) A (call (.builtin "str.replace") [.str x t, .str y u, .str z v]) Q E s :=
  wpAny_with_toks (Nat.le_refl _) (wpAny_mono (SC.replaceW hu hv huv hyz hx (by omega) fun t' k => (fun hk => hq t' k hk (replace_len x y z c 2 hy hz (by omega)) : s.toks ≤ ({ s with toks := k } : Shared).toks → _)) (fun _ _ h => h) fun _ _ h _ => h)
theorem addT (hx : (x.length == 0) = false) (hy : (y.length == 0) = false) (hl : x.length + y.length ≤ 1048576) (hq : (x ++ y).length = x.length + y.length → Q (.str (x ++ y) s.toks) { s with toks := s.toks + 1 }) : wpAny (model prog w) A (binaryOp .Add (.str x t) (.str y u)) Q E s := by
  have e : (x ++ y).length = x.length + y.length := strLen_append ..
  refine P.add_str ?_
  rw [hx, hy]
  simp only [Bool.false_eq_true, if_false]
  exact ⟨by rw [e, sizeLine_eq]; omega, hq e⟩
end
theorem wr_int {w : World} {A : Around} {E : Value → Shared → Prop} {s : Shared} {base : Heap} {mg mb : Str → Option Value} {mean : ExcName → Option Value} {Q : Value → Shared → Prop} {outer : List Env} {n : Int} {t : Tok}
   (B : Below A base outer s.heap) (X : (Mine.KC w.params).In s.heap) (T : Top EMP LS mean mg mb s.heap) (hh : A.handled = none) (hd : A.depth + 1 < recursionLimit) (h0 : 0 ≤ n) (h1 : n < 10 ^ 10)
   (ret : ∀ t' h' tk, Kp s.heap h' → Q (.str (PyData.int n).shown t') { s with heap := h', toks := tk }) : wpAny (model PROG w) A (call (.ref 115) [.int n t]) Q E s := by
  have hfill : (fun (_ : OpenLaw) (_ : Params → Frag) => True) PySem.Challenge.rw_nq0040_01 Mine.KC := by (k_fill; trivial)
  clear hfill
  w_top off
  k_dflt (refine' enterPX (binds := [(Str.ofString "thing", .int n t)]) ?k2 ?k3 ?k6 ?k7 ?k8 ?k9 ?kB ?kN ?_ ?c2 ?c3 ?c4; (case k2 => assumption); (case k3 => assumption); (case k6 => k_is); (case k7 => k_is); (case k8 => omega); (case k9 => first | exact BindsTo.of_eq rfl | exact binds_K (by assumption) rfl (by k_is) rfl rfl rfl); (case kN => decide +kernel); (case kB => exact kindsX rfl); (case c2 => exact rfl); (case c3 => exact rfl); (case c4 => exact rfl); k_whole)
  intro L' h' tk' cells' F' N' Y'
  k_cells Y'
  (try simp only [List.cons_append, List.nil_append] at N')
  try dsimp only
  try k_fold
  repeat' (first | ((with_reducible show wpAny _ _ (call (Value.builtin "str.replace") _ _) _ _ _); refine' replaceT _ ?ra ?rb ?rc ?rd ?re ?rf ?rg ?_; (case ra => first | exact (by decide +kernel : Str.ofString "\\" = ⟨#[92]⟩) | exact (by decide +kernel : Str.ofString "'" = ⟨#[39]⟩) | exact (by decide +kernel : Str.ofString "\"" = ⟨#[34]⟩)); (case rb => (show @Ne Nat _ _); simp); (case rc => (show @Ne Nat _ _); (first | omega | (dsimp only; omega))); (case rd => (show @Ne Nat _ _); (first | omega | (dsimp only; omega))); (case re => decide +kernel); (case rf => omega); (case rg => decide +kernel); intro _ _; intro hk hl; (try dsimp only at hk); revert hk hl; intro _ _) | ((with_reducible show wpAny _ _ (binaryOp Operator.Add (Value.str _ _) (Value.str _ _)) _ _ _); refine' addT ?ra ?rb ?rc ?_; (case ra => decide +kernel); (case rb => decide +kernel); (case rc => decide +kernel); intro _; (try dsimp only)) | walk_at "m1")
  dsimp only
  have e : (PyData.int n).shown = Str.ofString (toString n) := by simp only [PyData.shown]
  rw [e] at ret
  exact ret _ _ _ (Fr.keep (by assumption))
theorem chr_bs : Str.ofString "\\" = ⟨#[92]⟩ := by decide +kernel
theorem chr_sq : Str.ofString "'" = ⟨#[39]⟩ := by decide +kernel
theorem chr_dq : Str.ofString "\"" = ⟨#[34]⟩ := by decide +kernel
theorem quote_no {x : Str} (h : (Builtin.Str.occurrences x (Str.ofString "'") 0 x.length 1).isEmpty = true) : reprQuote x = 39 := by
  rw [chr_sq, empty_one] at h
  have : ¬ 39 ∈ x.cps := by simpa using h
  unfold reprQuote
  rw [if_neg (by simp [this])]
theorem quote_two {x : Str} (h : (Builtin.Str.occurrences x (Str.ofString "'") 0 x.length 1).isEmpty = false) (h2 : (Builtin.Str.occurrences x (Str.ofString "\"") 0 x.length 1).isEmpty = true) : reprQuote x = 34 := by
  rw [chr_sq, empty_one] at h
  rw [chr_dq, empty_one] at h2
  have h3 : 39 ∈ x.cps := by simpa using h
  have h4 : ¬ 34 ∈ x.cps := by simpa using h2
  unfold reprQuote
  rw [if_pos (by simp [h3, h4])]
theorem quote_both {x : Str} (h2 : (Builtin.Str.occurrences x (Str.ofString "\"") 0 x.length 1).isEmpty = false) : reprQuote x = 39 := by
  rw [chr_dq, empty_one] at h2
  have h4 : 34 ∈ x.cps := by simpa using h2
  unfold reprQuote
  rw [if_neg (by simp [h4])]
theorem wr_str {w : World} {A : Around} {E : Value → Shared → Prop} {s : Shared} {base : Heap} {mg mb : Str → Option Value} {mean : ExcName → Option Value} {Q : Value → Shared → Prop} {outer : List Env} {x : Str} {t : Tok}
   (B : Below A base outer s.heap) (X : (Mine.KC w.params).In s.heap) (T : Top EMP LS mean mg mb s.heap) (hh : A.handled = none) (hd : A.depth + 1 < recursionLimit) (hx : x.length ≤ 100) (ha : Asc x)
   (ret : ∀ t' h' tk, Kp s.heap h' → Q (.str (PyData.str x).shown t') { s with heap := h', toks := tk }) : wpAny (model PROG w) A (call (.ref 115) [.str x t]) Q E s := by
  have hfill : (fun (_ : OpenLaw) (_ : Params → Frag) => True) PySem.Challenge.rw_nq0040_01 Mine.KC := by (k_fill; trivial)
  clear hfill
  w_top off
  rw [PyData.shown_str] at ret
  k_dflt (refine' enterPX (binds := [(Str.ofString "thing", .str x t)]) ?k2 ?k3 ?k6 ?k7 ?k8 ?k9 ?kB ?kN ?_ ?c2 ?c3 ?c4; (case k2 => assumption); (case k3 => assumption); (case k6 => k_is); (case k7 => k_is); (case k8 => omega); (case k9 => first | exact BindsTo.of_eq rfl | exact binds_K (by assumption) rfl (by k_is) rfl rfl rfl); (case kN => decide +kernel); (case kB => exact kindsX rfl); (case c2 => exact rfl); (case c3 => exact rfl); (case c4 => exact rfl); k_whole)
  intro L' h' tk' cells' F' N' Y'
  k_cells Y'
  (try simp only [List.cons_append, List.nil_append] at N')
  try dsimp only
  try k_fold
  repeat' (first | ((with_reducible show wpAny _ _ (call (Value.builtin "str.replace") _ _) _ _ _); refine' replaceT _ ?ra ?rb ?rc ?rd ?re ?rf ?rg ?_; (case ra => first | exact (by decide +kernel : Str.ofString "\\" = ⟨#[92]⟩) | exact (by decide +kernel : Str.ofString "'" = ⟨#[39]⟩) | exact (by decide +kernel : Str.ofString "\"" = ⟨#[34]⟩)); (case rb => (show @Ne Nat _ _); simp); (case rc => (show @Ne Nat _ _); (first | omega | (dsimp only; omega))); (case rd => (show @Ne Nat _ _); (first | omega | (dsimp only; omega))); (case re => decide +kernel); (case rf => omega); (case rg => decide +kernel); intro _ _; intro hk hl; (try dsimp only at hk); revert hk hl; intro _ _) | ((with_reducible show wpAny _ _ (binaryOp Operator.Add (Value.str _ _) (Value.str _ _)) _ _ _); refine' addT ?ra ?rb ?rc ?_; (case ra => decide +kernel); (case rb => decide +kernel); (case rc => decide +kernel); intro _; (try dsimp only)) | walk_at "m1")
  · have e := written_str x ha (Str.ofString "'") (Str.ofString "\\") (Str.ofString "\\\\") (Str.ofString "'") 39 chr_sq chr_bs (by decide +kernel) (quote_no (by assumption))
    rw [← e] at ret
    dsimp only
    exact ret _ _ _ (Fr.keep (by assumption))
  · have e := written_str x ha (Str.ofString "\"") (Str.ofString "\\") (Str.ofString "\\\\") (Str.ofString "\"") 34 chr_dq chr_bs (by decide +kernel) (quote_two (by assumption) (by assumption))
    rw [← e] at ret
    dsimp only
    exact ret _ _ _ (Fr.keep (by assumption))
  · have e := written_str x ha (Str.ofString "'") (Str.ofString "\\") (Str.ofString "\\\\") (Str.ofString "'") 39 chr_sq chr_bs (by decide +kernel) (quote_both (by assumption))
    rw [← e] at ret
    dsimp only
    exact ret _ _ _ (Fr.keep (by assumption))
end Mine
end

section
set_option linter.all false
namespace Mine
section
open LCg
variable {prog : Program} {w : World} {A : Around} {E : Value → Shared → Prop} {s : Shared} {h₀ : Heap} {L : Addr} {m : Str → Option Value} {env : Env}
theorem rest_strs {elt : Expr} {x : Str} {scope : Scope} {cl : List (Str × Addr)} {S : List (Addr × Obj) → Prop} {P : Nat → Value → Prop} {Fin : List Value → List (Addr × Obj) → Prop} {news : List (Addr × Obj)} {n : Nat} (fs : List Str) (hn : fs.length = n) (hS : S news)
    (turn : ∀ (i : Nat) f v I oI C oC D ys m₂ h tk, fs[i]? = some f → P i v → NsObj oC m₂ → m₂ x = some v → Fr h₀ L h m → News h₀ L h ((I, oI) :: (C, oC) :: (D, lst ys) :: news) → Off3 I C D news →
      wpAny (model prog w) A (eval elt (compEnvC scope cl C env)) (fun y s' => Hold (∃ t h' tk', y = .str f t ∧ s' = { s with heap := h', toks := tk' } ∧ Kp h h')) (fun _ _ => False) { s with heap := h, toks := tk })
    (fin : ∀ ts, ts.map (·.1) = fs → Fin (strValues ts) news) :
    CompRest prog w A h₀ L m env elt x scope cl s S P Fin n 0 [] news := by
  refine CompRest.inv (n := n) (fun i ys nw => nw = news ∧ ∃ ts, ys = strValues ts ∧ ts.map (·.1) = fs.take i) ?_ ?_ n 0 (by omega) ⟨rfl, [], rfl, rfl⟩
  · rintro i ys nw v I oI C oC D m₂ h tk E' hi ⟨rfl, ts, rfl, hts⟩ hP hC hm F N off ne
    obtain ⟨f, hf⟩ : ∃ f, fs[i]? = some f := ⟨_, List.getElem?_eq_getElem (by omega)⟩
    refine wpAny_mono (turn i f v I oI C oC D _ m₂ h tk hf hP hC hm F N off) (fun y s' q => ?_) fun _ _ q => q.elim
    obtain ⟨t, h', tk', rfl, rfl, k⟩ := q.it
    refine ⟨h', tk', nw, rfl, F.keeps k, N.grown k, off, hS, rfl, ts ++ [(f, t)], by simp [strValues], ?_⟩
    rw [List.map_append, hts, List.take_succ, hf]; rfl
  · rintro ys nw ⟨rfl, ts, rfl, hts⟩
    exact fin ts (by rw [hts, List.take_of_length_le (by omega)])
theorem comp_tup {elt iter : Expr} {x : Str} {px : Pos} {scope : Scope} {cl : List (Str × Addr)} {pos : Pos} {Q : Value → Shared → Prop} {ax : Addr} {its : Array Value} {news : List (Addr × Obj)} (F₀ : Fr h₀ L s.heap m) (N₀ : News h₀ L s.heap news) (hh : A.handled = none)
    (ht : h₀.IsTuple ax its) (hsz : its.size ≤ 100) (fs : List Str) (hn : fs.length = its.size)
    (hi : ∀ Q' : Value → Shared → Prop, Hold (Q' (.ref ax) s) → wpAny (model prog w) A (eval iter env) (fun v s' => Hold (Q' v s')) E s)
    (turn : ∀ (i : Nat) f v I oI C oC D ys m₂ h tk, fs[i]? = some f → its[i]? = some v → NsObj oC m₂ → m₂ x = some v → Fr h₀ L h m → News h₀ L h ((I, oI) :: (C, oC) :: (D, lst ys) :: news) → Off3 I C D news →
      wpAny (model prog w) A (eval elt (compEnvC scope cl C env)) (fun y s' => Hold (∃ t h' tk', y = .str f t ∧ s' = { s with heap := h', toks := tk' } ∧ Kp h h')) (fun _ _ => False) { s with heap := h, toks := tk })
    (fin : ∀ ts D h tk, ts.map (·.1) = fs → Fr h₀ L h m → News h₀ L h ((D, lst (strValues ts)) :: news) → Q (.ref D) { s with heap := h, toks := tk })
    (hclos : closureFor scope env = pure cl) (hcell : ∀ y ∈ scope.names, y.2 ≠ .cell) (hkind : scope.kind = .function)
    (hnames : ∀ y ∈ scope.names, y.2 = .local → scope.names.lookup y.1 = some .local) (hx : scope.names.lookup x = some .local)
    (hs : ∀ x, foldedSetIterable iter env x = pure x) :
    wpAny (model prog w) A (eval (.ListComp elt [⟨.Name x px, iter, [], 0⟩] scope pos) env) Q E s := by
  refine ListComp_tup (L := L) (m := m) (news := news) hh ht (by rw [sizeLine_eq]; omega) hclos hcell hkind hnames hx (wpAny_mono (hi (fun v s' => v = .ref ax ∧ s' = s) ⟨rfl, rfl⟩) (fun v s' q => ?_) fun _ _ e => e) hs
  obtain ⟨rfl, rfl⟩ := q.it
  exact ⟨rfl, F₀, N₀, fun g => rest_strs fs hn trivial turn fun ts hts D h tk F N _ => fin ts D h tk hts F N⟩
theorem comp_list {elt iter : Expr} {x : Str} {px : Pos} {scope : Scope} {cl : List (Str × Addr)} {pos : Pos} {Q : Value → Shared → Prop} {ax : Addr} {its : Array Value} {news : List (Addr × Obj)} (F₀ : Fr h₀ L s.heap m) (N₀ : News h₀ L s.heap news) (hh : A.handled = none)
    (ht : SrcAt h₀ ax its news) (hsz : its.size ≤ 100) (fs : List Str) (hn : fs.length = its.size)
    (hi : ∀ Q' : Value → Shared → Prop, Hold (Q' (.ref ax) s) → wpAny (model prog w) A (eval iter env) (fun v s' => Hold (Q' v s')) E s)
    (turn : ∀ (i : Nat) f v I oI C oC D ys m₂ h tk, fs[i]? = some f → its[i]? = some v → NsObj oC m₂ → m₂ x = some v → Fr h₀ L h m → News h₀ L h ((I, oI) :: (C, oC) :: (D, lst ys) :: news) → Off3 I C D news →
      wpAny (model prog w) A (eval elt (compEnvC scope cl C env)) (fun y s' => Hold (∃ t h' tk', y = .str f t ∧ s' = { s with heap := h', toks := tk' } ∧ Kp h h')) (fun _ _ => False) { s with heap := h, toks := tk })
    (fin : ∀ ts D h tk, ts.map (·.1) = fs → Fr h₀ L h m → News h₀ L h ((D, lst (strValues ts)) :: news) → Q (.ref D) { s with heap := h, toks := tk })
    (hclos : closureFor scope env = pure cl) (hcell : ∀ y ∈ scope.names, y.2 ≠ .cell) (hkind : scope.kind = .function)
    (hnames : ∀ y ∈ scope.names, y.2 = .local → scope.names.lookup y.1 = some .local) (hx : scope.names.lookup x = some .local)
    (hs : ∀ x, foldedSetIterable iter env x = pure x) :
    wpAny (model prog w) A (eval (.ListComp elt [⟨.Name x px, iter, [], 0⟩] scope pos) env) Q E s := by
  refine ListComp_U F₀ hclos hcell hkind hnames hx (wpAny_mono (hi (fun v s' => v = .ref ax ∧ s' = s) ⟨rfl, rfl⟩) (fun v s' q => ?_) fun _ _ e => e) hs
  obtain ⟨rfl, rfl⟩ := q.it
  exact .inl ⟨ax, its, news, rfl, hh, F₀, N₀, ht, by rw [sizeLine_eq]; omega, fun s₂ ⟨g, e⟩ => e ▸ rest_strs fs hn ht turn fun ts hts D h tk F N _ => fin ts D h tk hts F N⟩
theorem comp_dict {elt iter : Expr} {x : Str} {px : Pos} {scope : Scope} {cl : List (Str × Addr)} {pos : Pos} {Q : Value → Shared → Prop} {ax : Addr} {kvs : List (Int × Value)} {ep : Nat} {news : List (Addr × Obj)} (F₀ : Fr h₀ L s.heap m) (N₀ : News h₀ L s.heap news) (hh : A.handled = none)
    (ht : h₀.DictAt (intKind prog w) ax kvs ep) (hlo : (ax == sysModules) = false) (hsz : kvs.length ≤ 100) (fs : List Str) (hn : fs.length = kvs.length)
    (hi : ∀ Q' : Value → Shared → Prop, Hold (Q' (.ref ax) s) → wpAny (model prog w) A (eval iter env) (fun v s' => Hold (Q' v s')) E s)
    (turn : ∀ (i : Nat) f v I oI C oC D ys m₂ h tk, fs[i]? = some f → (∃ k x, kvs[i]? = some (k, x) ∧ Value.isInt k v = true) → NsObj oC m₂ → m₂ x = some v → Fr h₀ L h m → News h₀ L h ((I, oI) :: (C, oC) :: (D, lst ys) :: news) → Off3 I C D news →
      wpAny (model prog w) A (eval elt (compEnvC scope cl C env)) (fun y s' => Hold (∃ t h' tk', y = .str f t ∧ s' = { s with heap := h', toks := tk' } ∧ Kp h h')) (fun _ _ => False) { s with heap := h, toks := tk })
    (fin : ∀ ts D h tk, ts.map (·.1) = fs → Fr h₀ L h m → News h₀ L h ((D, lst (strValues ts)) :: news) → Q (.ref D) { s with heap := h, toks := tk })
    (hclos : closureFor scope env = pure cl) (hcell : ∀ y ∈ scope.names, y.2 ≠ .cell) (hkind : scope.kind = .function)
    (hnames : ∀ y ∈ scope.names, y.2 = .local → scope.names.lookup y.1 = some .local) (hx : scope.names.lookup x = some .local)
    (hs : ∀ x, foldedSetIterable iter env x = pure x) :
    wpAny (model prog w) A (eval (.ListComp elt [⟨.Name x px, iter, [], 0⟩] scope pos) env) Q E s := by
  rw [eval_ListComp]
  refine wpAny_comprehension_free (use := none) rfl hs hclos hkind hnames (wpAny_mono (hi (fun v s' => v = .ref ax ∧ s' = s) ⟨rfl, rfl⟩) (fun v s' q => ?_) fun _ _ e => e)
  obtain ⟨rfl, rfl⟩ := q.it
  have hl : s'.heap.DictAt (intKind prog w) ax kvs ep := ht.at' fun o e => F₀.keep ax o e
  have hlt : ax < s'.heap.objs.size := by obtain ⟨_, _, e, _⟩ := hl; exact Heap.lt_size e
  refine wpAny_pyIter_dict hlo hl ?_
  have up : ∀ b o, s'.heap.get? b = some o → (s'.heap.push { cls := .type "dict_keyiterator", data := .fields #[.ref ax, .int 0 0, .int kvs.length 0, .int ep 0] }).get? b = some o := fun b o e => Heap.get?_push_of_some _ e
  refine block_U (S := fun _ => True) (Fin := FinE h₀ L m _ Q) (Walks.dictKeys (knd := intKind prog w) hh s'.heap.objs.size ax (Nat.ne_of_lt hlt) kvs ep) (by rw [sizeLine_eq]; omega) (fun i h st => by obtain ⟨o, e, _⟩ := st.1; exact ⟨o, e⟩)
    (fun i h h' o nw st e e' k _ _ => ⟨by obtain ⟨o', q, r⟩ := st.1; rw [e] at q; cases q; exact ⟨o, e', r⟩, ht.at' fun o e => k ax o e⟩) hcell hkind hx ⟨⟨_, Heap.get?_push_size _ rfl, rfl, rfl⟩, hl.at' fun o e => up ax o e⟩ (fun b hb => ?_)
    (F₀.keeps up) (N₀.grown up) (Nat.ne_of_lt F₀.ns.lt) (next_is_new F₀) (fun p hp => Nat.ne_of_lt (Heap.lt_size (N₀ p hp).1)) trivial (rest_strs fs hn trivial turn fun ts hts D h tk F N _ => fin ts D h tk hts F N) ?_
  · show b < (s'.heap.push _).objs.size
    rw [Heap.size_push]
    rcases List.mem_cons.mp hb with rfl | hb
    · exact Nat.lt_succ_self _
    · rw [List.mem_singleton.mp hb]; exact Nat.lt_succ_of_lt hlt
  · intro D C h tk m' ys news' F' N' o1 hn hC₀ hD₀ hCL hDL hCD offC fin
    refine ⟨m', hn, fun h'' hs'' => fin D h'' tk (F'.change hs'' hCL hC₀) (fun p hp => ?_) o1⟩
    refine ⟨hs''.extBut _ _ ?_ (N' p hp).1, (N' p hp).2⟩
    rcases List.mem_cons.mp hp with rfl | hp
    · exact Ne.symm hCD
    · exact offC p hp
end
end Mine
end

section
set_option linter.all false
namespace Mine
theorem ofString_list (l : List Char) : (Str.ofString (String.ofList l)).cps.toList = l.map Char.toNat := by
  rw [Str.ofString_eq_toList]; simp
theorem int_chars {n : Int} (h0 : 0 ≤ n) : (Str.ofString (toString n)).cps.toList = (Nat.toDigits 10 n.toNat).map Char.toNat := by
  have e : toString n = String.ofList (Nat.toDigits 10 n.toNat) := by
    show n.repr = _
    rw [Int.repr_eq_if, if_pos h0]; rfl
  rw [e, ofString_list]
theorem digit_nat {c : Char} (h : c.isDigit = true) : 48 ≤ c.toNat ∧ c.toNat ≤ 57 := by
  unfold Char.isDigit at h
  simp only [Bool.and_eq_true, decide_eq_true_eq, ge_iff_le] at h
  exact ⟨h.1, h.2⟩
theorem int_digits {n : Int} (h0 : 0 ≤ n) : ∀ c ∈ (Str.ofString (toString n)).cps.toList, 48 ≤ c ∧ c ≤ 57 := by
  intro c hc
  rw [int_chars h0] at hc
  obtain ⟨ch, hch, rfl⟩ := List.mem_map.mp hc
  exact digit_nat (Nat.isDigit_of_mem_toDigits (by decide) (by decide) hch)
theorem int_ne {n : Int} (h0 : 0 ≤ n) : (Str.ofString (toString n)).cps.toList ≠ [] := by
  rw [int_chars h0]
  have := @Nat.length_toDigits_pos 10 n.toNat
  intro e
  rw [List.map_eq_nil_iff] at e
  rw [e] at this
  simp at this
theorem int_asc {n : Int} (h0 : 0 ≤ n) : Asc (Str.ofString (toString n)) := fun c hc => by have := int_digits h0 c hc; (first | lia | omega)
theorem int_len {n : Int} (h0 : 0 ≤ n) (h1 : n < 10 ^ 10) : (Str.ofString (toString n)).length ≤ 11 := by
  have := int_text_length_le10 (a := n) (k := 10) (by decide) (by (first | lia | omega))
  rw [Str.ofString_eq_toList]
  simpa [Str.length, ← String.length_toList] using this
theorem digitsVal_lt : ∀ (cs : List Nat) (a k : Nat), (∀ c ∈ cs, 48 ≤ c ∧ c ≤ 57) → a < 10 ^ k → cs.foldl (fun acc c => acc * 10 + (c - 48)) a < 10 ^ (k + cs.length)
  | [], a, k, _, h => by simpa using h
  | c :: r, a, k, hd, h => by
    have hc := hd c (List.mem_cons_self ..)
    have := digitsVal_lt r (a * 10 + (c - 48)) (k + 1) (fun x hx => hd x (List.mem_cons_of_mem _ hx)) (by rw [Nat.pow_succ]; (first | lia | omega))
    rw [List.foldl_cons, List.length_cons, show k + (r.length + 1) = k + 1 + r.length by (first | lia | omega)]
    exact this
theorem int_text {x : Str} (hd : ∀ c ∈ x.cps.toList, 48 ≤ c ∧ c ≤ 57) (hne : x.cps.toList ≠ []) (hl : x.length ≤ 9) : ∃ n : Int, PySem.intText? x = some n ∧ 0 ≤ n ∧ n < 10 ^ 10 := by
  refine ⟨_, intText_digits hd hne (by (first | lia | omega)), by (first | lia | omega), ?_⟩
  have := digitsVal_lt x.cps.toList 0 0 hd (by decide)
  have e : x.length = x.cps.toList.length := by simp [Str.length]
  have h2 : (10 : Nat) ^ (0 + x.cps.toList.length) ≤ 10 ^ 10 := Nat.pow_le_pow_right (by decide) (by (first | lia | omega))
  have h3 : ((x.cps.toList.foldl (fun acc c => acc * 10 + (c - 48)) 0 : Nat) : Int) < 10 ^ 10 := by (first | lia | omega)
  exact h3
theorem int_text3 {a b c : Int} (ha : 0 ≤ a ∧ a ≤ 9) (hb : 0 ≤ b ∧ b < 500) (hc : 0 ≤ c ∧ c ≤ 9) :
    (∃ n : Int, PySem.intText? (Str.ofString (toString a) ++ Str.ofString (toString b) ++ Str.ofString (toString c)) = some n ∧ 0 ≤ n ∧ n < 10 ^ 10) ∧ (Str.ofString (toString a) ++ Str.ofString (toString b) ++ Str.ofString (toString c)).length ≤ 9 := by
  have l : ∀ (n : Int) (k : Nat), 0 < k → 0 ≤ n → n < 10 ^ k → (Str.ofString (toString n)).length ≤ k + 1 := fun n k hk h0 h1 => by
    have := int_text_length_le10 (a := n) (k := k) hk (by have e : ((10 ^ k : Nat) : Int) = 10 ^ k := by simp
                                                          (first | lia | omega))
    rw [Str.ofString_eq_toList]
    simpa [Str.length, ← String.length_toList] using this
  have la := l a 1 (by decide) ha.1 (by (first | lia | omega))
  have lb := l b 3 (by decide) hb.1 (by (first | lia | omega))
  have lc := l c 1 (by decide) hc.1 (by (first | lia | omega))
  have hl : (Str.ofString (toString a) ++ Str.ofString (toString b) ++ Str.ofString (toString c)).length ≤ 9 := by rw [strLen_append, strLen_append]; (first | lia | omega)
  refine ⟨int_text ?_ ?_ hl, hl⟩
  · simp only [Str.cps_append, Array.toList_append, List.mem_append]
    rintro x ((hx | hx) | hx)
    · exact int_digits ha.1 x hx
    · exact int_digits hb.1 x hx
    · exact int_digits hc.1 x hx
  · simp only [Str.cps_append, Array.toList_append]
    intro e
    exact int_ne ha.1 (List.append_eq_nil_iff.mp (List.append_eq_nil_iff.mp e).1).1
end Mine
end

section
namespace Mine
set_option maxRecDepth 100000
set_option maxHeartbeats 1000000
set_option linter.all false
theorem belowX {A : Around} {base h₀ h : Heap} {outer : List Env} {L a : Addr} {m : Str → Option Value} {name : Str} {scope : Scope} {cd : Value} {cl : List (Str × Addr)}
    (K : Below A base outer h₀) (F : Fr h₀ L h m) (hk : scope.kind = .function := by rfl) : Below (A.deeper (envX name scope L a cd cl)) base (envX name scope L a cd cl :: outer) h := by
  have hnew : base.get? L = none := by
    cases hq : base.get? L with
    | none => rfl
    | some o => exact absurd (Nat.lt_of_lt_of_le (Heap.lt_size (K.stays L o hq)) F.above) (Nat.lt_irrefl _)
  refine ⟨Around.frames_deeper K.stack, fun b o e => F.keep b o (K.stays b o e), ?_⟩
  exact .cons (by show scope.kind ≠ .module; rw [hk]; decide) rfl F.ns hnew (K.frames.of_keeps fun b o e _ => ⟨o, F.keep b o e, rfl⟩)
noncomputable def WrAt (w : World) (h : Heap) (n : Nat) (v : Value) (x : Str) : Prop := ∀ {A : Around} {E : Value → Shared → Prop} {s : Shared} {base : Heap} {mg mb : Str → Option Value} {mean : ExcName → Option Value} {Q : Value → Shared → Prop} {outer : List Env},
  Below A base outer s.heap → (Mine.KC w.params).In s.heap → Top EMP LS mean mg mb s.heap → A.handled = none → A.depth + n < recursionLimit → Kp h s.heap →
  (∀ t' h' tk, Kp s.heap h' → Q (.str x t') { s with heap := h', toks := tk }) → wpAny (model PROG w) A (call (.ref 115) [v]) Q E s
theorem inner_len {xs : List Str} (hn : xs.length ≤ 8) (hw : (xs.map (·.length)).sum ≤ 1000) : (Txt.join (Str.ofString ", ") xs).length ≤ 1100 := by
  have e : Txt.join (Str.ofString ", ") xs = Str.join (Str.ofString ", ") xs := StrLaws.glued_eq_join ..
  rw [e]
  have := StrLaws.join_length_le (Str.ofString ", ") xs
  have e2 : (Str.ofString ", ").length = 2 := by decide +kernel
  rw [e2] at this
  omega
theorem tupleText_one {xs : List Str} (h : xs.length = 1) : tupleText xs = Str.ofString "(" ++ Txt.join (Str.ofString ", ") xs ++ Str.ofString ",)" := by
  have e : Txt.join (Str.ofString ", ") xs = Str.join (Str.ofString ", ") xs := StrLaws.glued_eq_join ..
  rw [e]
  unfold tupleText
  rw [h]; rfl
theorem tupleText_many {xs : List Str} (h : xs.length ≠ 1) : tupleText xs = Str.ofString "(" ++ Txt.join (Str.ofString ", ") xs ++ Str.ofString ")" := by
  have e : Txt.join (Str.ofString ", ") xs = Str.join (Str.ofString ", ") xs := StrLaws.glued_eq_join ..
  rw [e]
  unfold tupleText
  rw [if_neg (by simpa using h)]
theorem listText_is (xs : List Str) : listText xs = Str.ofString "[" ++ Txt.join (Str.ofString ", ") xs ++ Str.ofString "]" := by
  have e : Txt.join (Str.ofString ", ") xs = Str.join (Str.ofString ", ") xs := StrLaws.glued_eq_join ..
  rw [e, listText_eq_join]
theorem dictText_is (xs : List Str) : dictText xs = Str.ofString "{" ++ Txt.join (Str.ofString ", ") xs ++ Str.ofString "}" := by
  have e : Txt.join (Str.ofString ", ") xs = Str.join (Str.ofString ", ") xs := StrLaws.glued_eq_join ..
  rw [e]; rfl
section
theorem wr_tup {w : World} {h : Heap} {n : Nat} {a : Addr} {its : List Value} {xs : List Str} (hn : its.length ≤ 8) (hnx : xs.length = its.length)
    (ht : h.IsTuple a its.toArray) (hel : ∀ (i : Nat) v x, its[i]? = some v → xs[i]? = some x → WrAt w h n v x) (hw : (xs.map (·.length)).sum ≤ 1000) : WrAt w h (n + 1) (.ref a) (tupleText xs) := by
  intro A E s base mg mb mean Q outer B X T hh hd hkh ret
  have hfill : (fun (_ : OpenLaw) (_ : Params → Frag) => True) PySem.Challenge.rw_nq0040_01 Mine.KC := by (k_fill; trivial)
  clear hfill
  w_top off
  have htu : s.heap.IsTuple a its.toArray := ht.at fun o e => hkh a o e
  k_dflt (refine' enterPX (binds := [(Str.ofString "thing", .ref a)]) ?k2 ?k3 ?k6 ?k7 ?k8 ?k9 ?kB ?kN ?_ ?c2 ?c3 ?c4; (case k2 => assumption); (case k3 => assumption); (case k6 => k_is); (case k7 => k_is); (case k8 => omega); (case k9 => first | exact BindsTo.of_eq rfl | exact binds_K (by assumption) rfl (by k_is) rfl rfl rfl); (case kN => decide +kernel); (case kB => exact kindsX rfl); (case c2 => exact rfl); (case c3 => exact rfl); (case c4 => exact rfl); k_whole)
  intro L' h' tk' cells' F' N' Y'
  k_cells Y'
  (try simp only [List.cons_append, List.nil_append] at N')
  try dsimp only
  try k_fold
  repeat' (first | ((with_reducible show wpAny _ _ (eval (PySem.Expr.ListComp _ _ _ _) _) _ _ _); refine Hold.it ?_) | walk_at "m1")
  refine ⟨?_⟩
  refine' comp_tup (x := Str.ofString "one") (ax := a) (its := its.toArray) F' (by assumption) hh htu ?lc xs ?ln ?li ?_ ?_ ?ld ?le ?lf ?lg ?lh ?ls
  case lc => simp only [List.size_toArray]; omega
  case ln => simpa using hnx
  case li => intro Q' hQ'; repeat' (first | ((with_reducible show wpAny _ _ (eval (PySem.Expr.ListComp _ _ _ _) _) _ _ _); refine Hold.it ?_) | walk_at "m1"); exact hQ'
  case ld => with_unfolding_all rfl
  case le => decide
  case lf => rfl
  case lg => decide
  case lh => rfl
  case ls => intro _; rfl
  · intro i f v I oI C oC D ys m₂ h2 tk2 hf hP hC hm F2 N2 off
    clear F'
    repeat' (first | ((with_reducible show wpAny _ _ (eval (PySem.Expr.ListComp _ _ _ _) _) _ _ _); refine Hold.it ?_) | walk_at "m1")
    refine hel i v f (by simpa using hP) hf (belowX B F2) (X.keeps F2.keep) (T.keeps F2.keep) hh ?_ (fun b o e => F2.keep b o (hkh b o e)) ?_
    · show A.depth + 1 + n < recursionLimit; omega
    intro t' h5 tk5 k5
    exact ⟨_, _, _, rfl, rfl, k5⟩
  · intro ts D h3 tk3 hts F3 N3
    clear F'
    have hil := inner_len (hnx ▸ hn) hw
    repeat' (first | ((with_reducible show wpAny _ _ (eval (PySem.Expr.ListComp _ _ _ _) _) _ _ _); refine Hold.it ?_) | walk_at "m1")
    have hl3 : h3.IsList D (strValues ts).toArray := ⟨_, N3.get (.head _), rfl, _, rfl⟩
    have hj3 : JoinOk (Str.ofString ", ") xs = true := joinOk_of_weight (by omega) (by decide +kernel)
    refine SC.join hl3 hts hj3 ?_
    intro tj kj
    by_cases h1 : xs.length = 1
    · rw [tupleText_one h1] at ret
      generalize Txt.join (Str.ofString ", ") xs = inn at *
      have h1' : its.length = 1 := by omega
      repeat' (first | ((with_reducible show wpAny _ _ (eval (PySem.Expr.ListComp _ _ _ _) _) _ _ _); refine Hold.it ?_) | walk_at "m1")
      refine PyProof.Rows.len_tuple (items := its.toArray) (htu.at fun o e => (by assumption : Fr s.heap L' _ _).keep a o e) (by simp [h1']) ?_
      simp only [List.size_toArray, h1']
      repeat' (first | ((with_reducible show wpAny _ _ (eval (PySem.Expr.ListComp _ _ _ _) _) _ _ _); refine Hold.it ?_) | walk_at "m1")
      dsimp only
      exact ret _ _ _ (Fr.keep (by assumption))
    · rw [tupleText_many h1] at ret
      generalize Txt.join (Str.ofString ", ") xs = inn at *
      have h1' : ((its.length : Int) == 1) = false := by simp; omega
      have h2 : (its.length : Int) < 2 ^ 63 := by omega
      generalize hq : (its.length : Int) = q at *
      repeat' (first | ((with_reducible show wpAny _ _ (eval (PySem.Expr.ListComp _ _ _ _) _) _ _ _); refine Hold.it ?_) | walk_at "m1")
      refine PyProof.Rows.len_tuple (items := its.toArray) (htu.at fun o e => (by assumption : Fr s.heap L' _ _).keep a o e) (by simpa [hq] using h2) ?_
      simp only [List.size_toArray, hq]
      repeat' (first | ((with_reducible show wpAny _ _ (eval (PySem.Expr.ListComp _ _ _ _) _) _ _ _); refine Hold.it ?_) | walk_at "m1")
      dsimp only
      exact ret _ _ _ (Fr.keep (by assumption))
theorem wr_list {w : World} {h : Heap} {n : Nat} {a : Addr} {its : List Value} {xs : List Str} (hn : its.length ≤ 8) (hnx : xs.length = its.length)
    (ht : h.IsList a its.toArray) (hel : ∀ (i : Nat) v x, its[i]? = some v → xs[i]? = some x → WrAt w h n v x) (hw : (xs.map (·.length)).sum ≤ 1000) : WrAt w h (n + 1) (.ref a) (listText xs) := by
  intro A E s base mg mb mean Q outer B X T hh hd hkh ret
  have hfill : (fun (_ : OpenLaw) (_ : Params → Frag) => True) PySem.Challenge.rw_nq0040_01 Mine.KC := by (k_fill; trivial)
  clear hfill
  w_top off
  have hts : s.heap.IsList a its.toArray := ht.at fun o e => hkh a o e
  k_dflt (refine' enterPX (binds := [(Str.ofString "thing", .ref a)]) ?k2 ?k3 ?k6 ?k7 ?k8 ?k9 ?kB ?kN ?_ ?c2 ?c3 ?c4; (case k2 => assumption); (case k3 => assumption); (case k6 => k_is); (case k7 => k_is); (case k8 => omega); (case k9 => first | exact BindsTo.of_eq rfl | exact binds_K (by assumption) rfl (by k_is) rfl rfl rfl); (case kN => decide +kernel); (case kB => exact kindsX rfl); (case c2 => exact rfl); (case c3 => exact rfl); (case c4 => exact rfl); k_whole)
  intro L' h' tk' cells' F' N' Y'
  k_cells Y'
  (try simp only [List.cons_append, List.nil_append] at N')
  try dsimp only
  try k_fold
  repeat' (first | ((with_reducible show wpAny _ _ (eval (PySem.Expr.ListComp _ _ _ _) _) _ _ _); refine Hold.it ?_) | walk_at "m1")
  refine ⟨?_⟩
  refine' comp_list (x := Str.ofString "one") (ax := a) (its := its.toArray) F' (by assumption) hh (.inl hts) ?lc xs ?ln ?li ?_ ?_ ?ld ?le ?lf ?lg ?lh ?ls
  case lc => simp only [List.size_toArray]; omega
  case ln => simpa using hnx
  case li => intro Q' hQ'; repeat' (first | ((with_reducible show wpAny _ _ (eval (PySem.Expr.ListComp _ _ _ _) _) _ _ _); refine Hold.it ?_) | walk_at "m1"); exact hQ'
  case ld => with_unfolding_all rfl
  case le => decide
  case lf => rfl
  case lg => decide
  case lh => rfl
  case ls => intro _; rfl
  · intro i f v I oI C oC D ys m₂ h2 tk2 hf hP hC hm F2 N2 off
    clear F'
    repeat' (first | ((with_reducible show wpAny _ _ (eval (PySem.Expr.ListComp _ _ _ _) _) _ _ _); refine Hold.it ?_) | walk_at "m1")
    refine hel i v f (by simpa using hP) hf (belowX B F2) (X.keeps F2.keep) (T.keeps F2.keep) hh ?_ (fun b o e => F2.keep b o (hkh b o e)) ?_
    · show A.depth + 1 + n < recursionLimit; omega
    intro t' h5 tk5 k5
    exact ⟨_, _, _, rfl, rfl, k5⟩
  · intro ts D h3 tk3 hts F3 N3
    clear F'
    have hil := inner_len (hnx ▸ hn) hw
    repeat' (first | ((with_reducible show wpAny _ _ (eval (PySem.Expr.ListComp _ _ _ _) _) _ _ _); refine Hold.it ?_) | walk_at "m1")
    have hl3 : h3.IsList D (strValues ts).toArray := ⟨_, N3.get (.head _), rfl, _, rfl⟩
    have hj3 : JoinOk (Str.ofString ", ") xs = true := joinOk_of_weight (by omega) (by decide +kernel)
    refine SC.join hl3 hts hj3 ?_
    intro tj kj
    rw [listText_is] at ret
    generalize Txt.join (Str.ofString ", ") xs = inn at *
    repeat' (first | ((with_reducible show wpAny _ _ (eval (PySem.Expr.ListComp _ _ _ _) _) _ _ _); refine Hold.it ?_) | walk_at "m1")
    dsimp only
    exact ret _ _ _ (Fr.keep (by assumption))
theorem wr_dict {w : World} {h : Heap} {n : Nat} {a : Addr} {k : Int} {v : Value} {x : Str} {ep : Nat} (h0 : 0 ≤ k) (h1 : k < 10 ^ 10)
    (ht : h.DictAt (intKind PROG w) a [(k, v)] ep) (hlo : (a == sysModules) = false) (hel : WrAt w h n v x) (hw : x.length ≤ 900) : WrAt w h (n + 1) (.ref a) (dictText [Str.ofString (toString k) ++ Str.ofString ": " ++ x]) := by
  intro A E s base mg mb mean Q outer B X T hh hd hkh ret
  have hfill : (fun (_ : OpenLaw) (_ : Params → Frag) => True) PySem.Challenge.rw_nq0040_01 Mine.KC := by (k_fill; trivial)
  clear hfill
  w_top off
  have htu : s.heap.DictAt (intKind PROG w) a [(k, v)] ep := ht.at' fun o e => hkh a o e
  have htu2 : s.heap.DictOf (intKind PROG w) a [(k, v)] := by obtain ⟨o, es, ho, r⟩ := htu; exact ⟨o, es, _, ho, r⟩
  obtain ⟨od, hdo, hdc⟩ : ∃ o, s.heap.get? a = some o ∧ o.cls = .type "dict" := by obtain ⟨o, es, ho, r, _⟩ := htu; exact ⟨o, ho, r.1⟩
  k_dflt (refine' enterPX (binds := [(Str.ofString "thing", .ref a)]) ?k2 ?k3 ?k6 ?k7 ?k8 ?k9 ?kB ?kN ?_ ?c2 ?c3 ?c4; (case k2 => assumption); (case k3 => assumption); (case k6 => k_is); (case k7 => k_is); (case k8 => omega); (case k9 => first | exact BindsTo.of_eq rfl | exact binds_K (by assumption) rfl (by k_is) rfl rfl rfl); (case kN => decide +kernel); (case kB => exact kindsX rfl); (case c2 => exact rfl); (case c3 => exact rfl); (case c4 => exact rfl); k_whole)
  intro L' h' tk' cells' F' N' Y'
  k_cells Y'
  (try simp only [List.cons_append, List.nil_append] at N')
  try dsimp only
  try k_fold
  repeat' (first | ((with_reducible show wpAny _ _ (eval (PySem.Expr.ListComp _ _ _ _) _) _ _ _); refine Hold.it ?_) | ((with_reducible show wpAny _ _ (call (Value.builtin "isinstance") _ _) _ _ _); first | refine IsiPair.dict_str (Fr.keep (by assumption) _ _ (by assumption)) (by assumption) ?_ | refine IsiPair.dict_int (Fr.keep (by assumption) _ _ (by assumption)) (by assumption) ?_ | refine IsiPair.dict_dict (Fr.keep (by assumption) _ _ (by assumption)) (by assumption) ?_) | walk_at "m1")
  refine ⟨?_⟩
  have hkl := int_len h0 h1
  have ev : (Str.ofString (toString k) ++ Str.ofString ": " ++ x).length ≤ 1000 := by
    rw [strLen_append, strLen_append]
    have : (Str.ofString ": ").length = 2 := by decide +kernel
    omega
  refine' comp_dict (x := Str.ofString "key") (ax := a) F' (by assumption) hh htu hlo ?lc [Str.ofString (toString k) ++ Str.ofString ": " ++ x] ?ln ?li ?_ ?_ ?ld ?le ?lf ?lg ?lh ?ls
  case lc => simp
  case ln => simp
  case li => intro Q' hQ'; repeat' (first | ((with_reducible show wpAny _ _ (eval (PySem.Expr.ListComp _ _ _ _) _) _ _ _); refine Hold.it ?_) | ((with_reducible show wpAny _ _ (call (Value.builtin "isinstance") _ _) _ _ _); first | refine IsiPair.dict_str (Fr.keep (by assumption) _ _ (by assumption)) (by assumption) ?_ | refine IsiPair.dict_int (Fr.keep (by assumption) _ _ (by assumption)) (by assumption) ?_ | refine IsiPair.dict_dict (Fr.keep (by assumption) _ _ (by assumption)) (by assumption) ?_) | walk_at "m1"); exact hQ'
  case ld => with_unfolding_all rfl
  case le => decide
  case lf => rfl
  case lg => decide
  case lh => rfl
  case ls => intro _; rfl
  · intro i f kv I oI C oC D ys m₂ h2 tk2 hf hP hC hm F2 N2 off
    clear F'
    obtain ⟨k', v', hkv, hki⟩ := hP
    have hi : i = 0 := by
      have := (List.getElem?_eq_some_iff.mp hf).1
      simpa using this
    subst hi
    simp at hkv hf
    obtain ⟨rfl, rfl⟩ := hkv
    subst hf
    obtain ⟨tkv, rfl⟩ := Value.isInt_shape hki
    repeat' (first | ((with_reducible show wpAny _ _ (eval (PySem.Expr.ListComp _ _ _ _) _) _ _ _); refine Hold.it ?_) | ((with_reducible show wpAny _ _ (call (Value.builtin "isinstance") _ _) _ _ _); first | refine IsiPair.dict_str (Fr.keep (by assumption) _ _ (by assumption)) (by assumption) ?_ | refine IsiPair.dict_int (Fr.keep (by assumption) _ _ (by assumption)) (by assumption) ?_ | refine IsiPair.dict_dict (Fr.keep (by assumption) _ _ (by assumption)) (by assumption) ?_) | walk_at "m1")
    have hd2 : h2.DictOf (intKind PROG w) a [(k, v)] := by obtain ⟨o, es, e, ho, r⟩ := htu2; exact ⟨o, es, e, F2.keep _ _ ho, r⟩
    refine tail_any hd2.typeIs slot_dict_getitem.lookup (wpAny_getItem_of (intKind_is _ _ _ _) hd2.mapOf (by show valueAt [(k, v)] k = some v; simp [valueAt]) ?_) (by with_unfolding_all rfl)
    repeat' (first | ((with_reducible show wpAny _ _ (eval (PySem.Expr.ListComp _ _ _ _) _) _ _ _); refine Hold.it ?_) | ((with_reducible show wpAny _ _ (call (Value.builtin "isinstance") _ _) _ _ _); first | refine IsiPair.dict_str (Fr.keep (by assumption) _ _ (by assumption)) (by assumption) ?_ | refine IsiPair.dict_int (Fr.keep (by assumption) _ _ (by assumption)) (by assumption) ?_ | refine IsiPair.dict_dict (Fr.keep (by assumption) _ _ (by assumption)) (by assumption) ?_) | walk_at "m1")
    refine hel (belowX B F2) (X.keeps F2.keep) (T.keeps F2.keep) hh ?_ (fun b o e => F2.keep b o (hkh b o e)) ?_
    · show A.depth + 1 + n < recursionLimit; omega
    intro t' h5 tk5 k5
    have F5 := F2.keeps k5
    have N5 := N2.grown k5
    clear F2 N2
    repeat' (first | ((with_reducible show wpAny _ _ (eval (PySem.Expr.ListComp _ _ _ _) _) _ _ _); refine Hold.it ?_) | ((with_reducible show wpAny _ _ (call (Value.builtin "isinstance") _ _) _ _ _); first | refine IsiPair.dict_str (Fr.keep (by assumption) _ _ (by assumption)) (by assumption) ?_ | refine IsiPair.dict_int (Fr.keep (by assumption) _ _ (by assumption)) (by assumption) ?_ | refine IsiPair.dict_dict (Fr.keep (by assumption) _ _ (by assumption)) (by assumption) ?_) | walk_at "m1")
    exact ⟨_, _, _, rfl, rfl, k5⟩
  · intro ts D h3 tk3 hts F3 N3
    clear F'
    repeat' (first | ((with_reducible show wpAny _ _ (eval (PySem.Expr.ListComp _ _ _ _) _) _ _ _); refine Hold.it ?_) | ((with_reducible show wpAny _ _ (call (Value.builtin "isinstance") _ _) _ _ _); first | refine IsiPair.dict_str (Fr.keep (by assumption) _ _ (by assumption)) (by assumption) ?_ | refine IsiPair.dict_int (Fr.keep (by assumption) _ _ (by assumption)) (by assumption) ?_ | refine IsiPair.dict_dict (Fr.keep (by assumption) _ _ (by assumption)) (by assumption) ?_) | walk_at "m1")
    have hl3 : h3.IsList D (strValues ts).toArray := ⟨_, N3.get (.head _), rfl, _, rfl⟩
    have hj3 : JoinOk (Str.ofString ", ") [Str.ofString (toString k) ++ Str.ofString ": " ++ x] = true := joinOk_of_weight (by simp only [List.map_cons, List.map_nil, List.sum_cons, List.sum_nil, List.length_cons, List.length_nil]; omega) (by decide +kernel)
    refine SC.join hl3 hts hj3 ?_
    intro tj kj
    rw [dictText_is] at ret
    have hil := inner_len (xs := [Str.ofString (toString k) ++ Str.ofString ": " ++ x]) (by simp) (by simp only [List.map_cons, List.map_nil, List.sum_cons, List.sum_nil]; omega)
    generalize Txt.join (Str.ofString ", ") [Str.ofString (toString k) ++ Str.ofString ": " ++ x] = inn at *
    repeat' (first | ((with_reducible show wpAny _ _ (eval (PySem.Expr.ListComp _ _ _ _) _) _ _ _); refine Hold.it ?_) | ((with_reducible show wpAny _ _ (call (Value.builtin "isinstance") _ _) _ _ _); first | refine IsiPair.dict_str (Fr.keep (by assumption) _ _ (by assumption)) (by assumption) ?_ | refine IsiPair.dict_int (Fr.keep (by assumption) _ _ (by assumption)) (by assumption) ?_ | refine IsiPair.dict_dict (Fr.keep (by assumption) _ _ (by assumption)) (by assumption) ?_) | walk_at "m1")
    dsimp only
    exact ret _ _ _ (Fr.keep (by assumption))
end
end Mine
end

section
set_option linter.all false
namespace Mine
noncomputable def Lies (O : List (Addr × Obj)) (h : Heap) : Prop := ∀ p ∈ O, h.get? p.1 = some p.2
structure Part (w : World) (O : List (Addr × Obj)) (v : Value) (d : PyData) (n len : Nat) : Prop where
  reads : ∀ h, Lies O h → ∃ as, Reads h v d as ∧ ∀ a ∈ as, a ∈ O.map (·.1)
  writes : ∀ h, Lies O h → WrAt w h n v d.shown
  shows : d.showable = true
  depth : d.depth ≤ n
  asc : Asc d.shown
  len : d.shown.length ≤ len
theorem Part.more {w : World} {O O' : List (Addr × Obj)} {v : Value} {d : PyData} {n len : Nat} (x : Part w O v d n len) (s : ∀ p ∈ O, p ∈ O') : Part w O' v d n len :=
  ⟨fun h l => by
    obtain ⟨as, r, m⟩ := x.reads h fun p hp => l p (s p hp)
    refine ⟨as, r, fun a ha => ?_⟩
    obtain ⟨p, hp, e⟩ := List.mem_map.mp (m a ha)
    exact List.mem_map.mpr ⟨p, s p hp, e⟩, fun h l => x.writes h fun p hp => l p (s p hp), x.shows, x.depth, x.asc, x.len⟩
theorem WrAt.mono {w : World} {h : Heap} {n k : Nat} {v : Value} {x : Str} (hn : n ≤ k) (y : WrAt w h n v x) : WrAt w h k v x :=
  fun {A E s base mg mb mean Q outer} B X T hh hd hk ret => y B X T hh (by (first | lia | omega)) hk ret
theorem part_str {w : World} {O : List (Addr × Obj)} {x : Str} {t : Tok} (ha : Asc x) (hl : x.length ≤ 80) : Part w O (.str x t) (.str x) 1 162 := by
  refine ⟨fun h _ => ⟨[], .str x t, fun _ h => nomatch h⟩, fun h _ => ?_, rfl, by simp [PyData.depth], ?_, ?_⟩
  · intro A E s base mg mb mean Q outer B X T hh hd hk ret
    exact wr_str B X T hh hd (by (first | lia | omega)) ha ret
  · rw [PyData.shown_str]; exact reprText_asc ha
  · rw [PyData.shown_str]; have := reprText_len2 ha; (first | lia | omega)
theorem part_int {w : World} {O : List (Addr × Obj)} {n : Int} {t : Tok} (h0 : 0 ≤ n) (h1 : n < 10 ^ 10) : Part w O (.int n t) (.int n) 1 11 := by
  have e : (PyData.int n).shown = Str.ofString (toString n) := by simp only [PyData.shown]
  refine ⟨fun h _ => ⟨[], .int n t, fun _ h => nomatch h⟩, fun h _ => ?_, ?_, by simp [PyData.depth], ?_, ?_⟩
  · intro A E s base mg mb mean Q outer B X T hh hd hk ret
    exact wr_int B X T hh hd h0 h1 ret
  · have : n.natAbs.log2 < 1920 := by
      have h2 : n.natAbs < 2 ^ 1920 := Nat.lt_of_lt_of_le (by (first | lia | omega) : n.natAbs < 2 ^ 34) (Nat.pow_le_pow_right (by decide) (by decide))
      by_cases hz : n.natAbs = 0
      · rw [hz]; decide
      · exact (Nat.log2_lt hz).mpr h2
    simpa [PyData.showable] using this
  · rw [e]; exact int_asc h0
  · rw [e]; exact int_len h0 h1
inductive Parts (w : World) (O : List (Addr × Obj)) (n : Nat) : List Value → List PyData → Nat → Prop
  | nil : Parts w O n [] [] 0
  | cons {v vs d ds l k} : Part w O v d n l → Parts w O n vs ds k → Parts w O n (v :: vs) (d :: ds) (l + k)
theorem Part.up {w : World} {O : List (Addr × Obj)} {v : Value} {d : PyData} {n k l : Nat} (hn : n ≤ k) (x : Part w O v d n l) : Part w O v d k l :=
  ⟨x.reads, fun h q => WrAt.mono hn (x.writes h q), x.shows, Nat.le_trans x.depth hn, x.asc, x.len⟩
section
variable {w : World} {O : List (Addr × Obj)} {n : Nat} {vs : List Value} {ds : List PyData} {k : Nat}
theorem Parts.reads (x : Parts w O n vs ds k) : ∀ h, Lies O h → ∃ as, ReadsAll h vs ds as ∧ ∀ a ∈ as, a ∈ O.map (·.1) := by
  induction x with
  | nil => exact fun h _ => ⟨[], .nil, fun _ h => nomatch h⟩
  | cons p _ ih =>
    intro h l
    obtain ⟨as, r, m⟩ := p.reads h l
    obtain ⟨bs, r2, m2⟩ := ih h l
    exact ⟨_, .cons r r2, fun a ha => (List.mem_append.mp ha).elim (m a) (m2 a)⟩
theorem Parts.slen (x : Parts w O n vs ds k) : (PyData.shownAll ds).length = vs.length := by induction x with | nil => simp [PyData.shownAll] | cons _ _ ih => simp [PyData.shownAll, ih]
theorem Parts.sum (x : Parts w O n vs ds k) : ((PyData.shownAll ds).map (·.length)).sum ≤ k := by
  induction x with
  | nil => simp [PyData.shownAll]
  | cons p _ ih => simp only [PyData.shownAll, List.map_cons, List.sum_cons]; have := p.len; (first | lia | omega)
theorem Parts.shows (x : Parts w O n vs ds k) : PyData.showableAll ds = true := by induction x with | nil => rfl | cons p _ ih => simp [PyData.showableAll, p.shows, ih]
theorem Parts.depth (x : Parts w O n vs ds k) : PyData.depthAll ds ≤ n := by induction x with | nil => simp [PyData.depthAll] | cons p _ ih => simp only [PyData.depthAll]; have := p.depth; (first | lia | omega)
theorem Parts.asc (x : Parts w O n vs ds k) : ∀ y ∈ PyData.shownAll ds, Asc y := by
  induction x with
  | nil => simp [PyData.shownAll]
  | cons p _ ih =>
    intro y hy
    simp only [PyData.shownAll, List.mem_cons] at hy
    rcases hy with rfl | hy
    · exact p.asc
    · exact ih y hy
theorem Parts.writes (x : Parts w O n vs ds k) : ∀ h, Lies O h → ∀ (i : Nat) v y, vs[i]? = some v → (PyData.shownAll ds)[i]? = some y → WrAt w h n v y := by
  induction x with
  | nil => intro h _ i v y e; simp at e
  | cons p _ ih =>
    intro h l i v y e e2
    cases i with
    | zero =>
      simp [PyData.shownAll] at e e2
      subst e e2
      exact p.writes h l
    | succ i =>
      simp [PyData.shownAll] at e e2
      exact ih h l i v y e e2
end
theorem asc_app {x y : Str} (a : Asc x) (b : Asc y) : Asc (x ++ y) := fun c hc => by
  simp only [Str.cps_append, Array.toList_append, List.mem_append] at hc
  exact hc.elim (a c) (b c)
theorem asc_join {sep : Str} (hs : Asc sep) : ∀ {xs : List Str}, (∀ y ∈ xs, Asc y) → Asc (Str.join sep xs)
  | [], _ => fun c hc => by simp [Str.join, Str.empty] at hc
  | [x], h => h x (List.mem_singleton.mpr rfl)
  | x :: y :: r, h => asc_app (asc_app (h x (.head _)) hs) (asc_join hs fun z hz => h z (.tail _ hz))
theorem asc_of (s : String) (h : (Str.ofString s).cps.toList.all (fun c => decide (32 ≤ c) && decide (c < 127)) = true) : Asc (Str.ofString s) := fun c hc => by
  have := List.all_eq_true.mp h c hc
  simpa using this
theorem join_bound {xs : List Str} {k : Nat} (h : (xs.map (·.length)).sum ≤ k) : (Str.join (Str.ofString ", ") xs).length ≤ k + xs.length * 2 := by
  have := StrLaws.join_length_le (Str.ofString ", ") xs
  have e2 : (Str.ofString ", ").length = 2 := by decide +kernel
  rw [e2] at this
  (first | lia | omega)
theorem joined (xs : List Str) : Txt.join (Str.ofString ", ") xs = Str.join (Str.ofString ", ") xs := StrLaws.glued_eq_join ..
theorem part_tup {w : World} {O : List (Addr × Obj)} {n k : Nat} {vs : List Value} {ds : List PyData} {a : Addr} {o : Obj} {z : Nat} (hm : (a, o) ∈ O) (hc : o.cls = .type "tuple") (hdt : o.data = .seq vs.toArray z) (x : Parts w O n vs ds k) (hv : vs.length ≤ 4) (hk : k ≤ 900) : Part w O (.ref a) (.tuple ds) (n + 1) (k + 11) := by
  have e : (PyData.tuple ds).shown = tupleText (PyData.shownAll ds) := by simp only [PyData.shown]
  have hj := join_bound x.sum
  rw [x.slen] at hj
  refine ⟨fun h l => ?_, fun h l => ?_, ?_, ?_, ?_, ?_⟩
  · obtain ⟨as, r, m⟩ := x.reads h l
    exact ⟨as, .tuple (l _ hm) hc hdt (by simpa using r), m⟩
  · rw [e]
    exact wr_tup (by (first | lia | omega)) x.slen ⟨_, l _ hm, hc, _, hdt⟩ (x.writes h l) (Nat.le_trans x.sum (by (first | lia | omega)))
  · simpa [PyData.showable] using x.shows
  · simp only [PyData.depth]; have := x.depth; (first | lia | omega)
  · rw [e]
    by_cases h1 : (PyData.shownAll ds).length = 1
    · rw [tupleText_one h1, joined]
      exact asc_app (asc_app (asc_of _ (by decide +kernel)) (asc_join (asc_of _ (by decide +kernel)) x.asc)) (asc_of _ (by decide +kernel))
    · rw [tupleText_many h1, joined]
      exact asc_app (asc_app (asc_of _ (by decide +kernel)) (asc_join (asc_of _ (by decide +kernel)) x.asc)) (asc_of _ (by decide +kernel))
  · rw [e]
    have l1 : (Str.ofString "(").length = 1 := by decide +kernel
    have l2 : (Str.ofString ")").length = 1 := by decide +kernel
    have l3 : (Str.ofString ",)").length = 2 := by decide +kernel
    by_cases h1 : (PyData.shownAll ds).length = 1
    · rw [tupleText_one h1, joined, strLen_append, strLen_append]; (first | lia | omega)
    · rw [tupleText_many h1, joined, strLen_append, strLen_append]; (first | lia | omega)
theorem part_list {w : World} {O : List (Addr × Obj)} {n k : Nat} {vs : List Value} {ds : List PyData} {a : Addr} {o : Obj} {z : Nat} (hm : (a, o) ∈ O) (hc : o.cls = .type "list") (hdt : o.data = .seq vs.toArray z) (x : Parts w O n vs ds k) (hv : vs.length ≤ 4) (hk : k ≤ 900) : Part w O (.ref a) (.list ds) (n + 1) (k + 11) := by
  have e : (PyData.list ds).shown = listText (PyData.shownAll ds) := by simp only [PyData.shown]
  have hj := join_bound x.sum
  rw [x.slen] at hj
  refine ⟨fun h l => ?_, fun h l => ?_, ?_, ?_, ?_, ?_⟩
  · obtain ⟨as, r, m⟩ := x.reads h l
    refine ⟨a :: as, .list (l _ hm) hc hdt (by simpa using r), fun b hb => ?_⟩
    rcases List.mem_cons.mp hb with rfl | hb
    · exact List.mem_map.mpr ⟨_, hm, rfl⟩
    · exact m b hb
  · rw [e]
    exact wr_list (by (first | lia | omega)) x.slen ⟨_, l _ hm, hc, _, hdt⟩ (x.writes h l) (Nat.le_trans x.sum (by (first | lia | omega)))
  · simpa [PyData.showable] using x.shows
  · simp only [PyData.depth]; have := x.depth; (first | lia | omega)
  · rw [e, listText_is, joined]
    exact asc_app (asc_app (asc_of _ (by decide +kernel)) (asc_join (asc_of _ (by decide +kernel)) x.asc)) (asc_of _ (by decide +kernel))
  · rw [e]
    have l1 : (Str.ofString "[").length = 1 := by decide +kernel
    have l2 : (Str.ofString "]").length = 1 := by decide +kernel
    rw [listText_is, joined, strLen_append, strLen_append]; (first | lia | omega)
theorem part_dict {w : World} {O : List (Addr × Obj)} {n k : Nat} {v : Value} {d : PyData} {a : Addr} {o : Obj} {m : Int} (hm : (a, o) ∈ O) (hd : o.IsDictOf (intKind PROG w) [(m, v)]) (hlo : (a == sysModules) = false) (h0 : 0 ≤ m) (h1 : m < 10 ^ 10) (x : Part w O v d n k) (hk : k ≤ 900) : Part w O (.ref a) (.dict [(.int m, d)]) (n + 1) (k + 17) := by
  have e0 : (PyData.int m).shown = Str.ofString (toString m) := by simp only [PyData.shown]
  have e : (PyData.dict [(.int m, d)]).shown = dictText [Str.ofString (toString m) ++ Str.ofString ": " ++ d.shown] := by
    simp only [PyData.shown, PyData.shownKv]
  obtain ⟨es, ep, hx, hdt, hk1, hp, hnd⟩ := hd
  have hes : ∃ en t, es.toList = [en] ∧ en.val = v ∧ en.key = .int m t := by
    cases hq : es.toList with
    | nil => rw [hq] at hp; cases hp
    | cons en r =>
      rw [hq] at hp
      cases hp with
      | cons ha hb hc =>
        cases hc
        obtain ⟨t, ht⟩ := Value.isInt_shape ha
        exact ⟨en, t, rfl, hb, ht⟩
  obtain ⟨en, t, he1, he2, he3⟩ := hes
  have hl := int_len h0 h1
  have hxl := x.len
  have l0 : (Str.ofString ": ").length = 2 := by decide +kernel
  refine ⟨fun h l => ?_, fun h l => ?_, ?_, ?_, ?_, ?_⟩
  · obtain ⟨as, r, mm⟩ := x.reads h l
    refine ⟨a :: [] ++ (as ++ []), .dict (kvs := [(.int m, d)]) (l _ hm) hx.1 hdt (by rw [he1]; simp only [List.map_cons, List.map_nil, he3]; exact .cons (.int m t) .nil) (by rw [he1]; simp only [List.map_cons, List.map_nil, he2]; exact .cons r .nil), fun b hb => ?_⟩
    simp only [List.cons_append, List.nil_append, List.append_nil] at hb
    rcases List.mem_cons.mp hb with rfl | hb
    · exact List.mem_map.mpr ⟨_, hm, rfl⟩
    · exact mm b hb
  · rw [e]
    exact wr_dict h0 h1 ⟨o, es, l _ hm, hx, hdt, hk1, hp, hnd⟩ hlo (x.writes h l) (by (first | lia | omega))
  · have h2 := (part_int (w := w) (O := O) (t := t) h0 h1).shows
    simp only [PyData.showable, PyData.showableKv]
    simp only [PyData.showable] at h2
    rw [h2, x.shows]; rfl
  · simp only [PyData.depth, PyData.depthKv]; have := x.depth; (first | lia | omega)
  · rw [e, dictText_is, joined]
    refine asc_app (asc_app (asc_of _ (by decide +kernel)) (asc_join (asc_of _ (by decide +kernel)) fun y hy => ?_)) (asc_of _ (by decide +kernel))
    rw [List.mem_singleton.mp hy]
    exact asc_app (asc_app (int_asc h0) (asc_of _ (by decide +kernel))) x.asc
  · rw [e, dictText_is, joined, strLen_append, strLen_append]
    have l1 : (Str.ofString "{").length = 1 := by decide +kernel
    have l2 : (Str.ofString "}").length = 1 := by decide +kernel
    show (Str.ofString "{").length + (Str.ofString (toString m) ++ Str.ofString ": " ++ d.shown).length + (Str.ofString "}").length ≤ _
    rw [strLen_append, strLen_append]; (first | lia | omega)
theorem Part.wide {w : World} {O : List (Addr × Obj)} {v : Value} {d : PyData} {n k l l' : Nat} (hn : n ≤ k) (hl : l ≤ l') (x : Part w O v d n l) : Part w O v d k l' :=
  ⟨x.reads, fun h q => WrAt.mono hn (x.writes h q), x.shows, Nat.le_trans x.depth hn, x.asc, Nat.le_trans x.len hl⟩
noncomputable def Thing (w : World) (h h' : Heap) (v : Value) : Prop := ∃ a d O, v = .ref a ∧ Part w O v d 4 400 ∧ ∀ p ∈ O, h'.get? p.1 = some p.2 ∧ h.get? p.1 = none ∧ itc p.2.cls = false
theorem Thing.of {w : World} {h h' : Heap} {L a : Addr} {O : List (Addr × Obj)} {d : PyData} {n l : Nat} (N : News h L h' O) (hI : NoIt O) (x : Part w O (.ref a) d n l) (hn : n ≤ 4) (hl : l ≤ 400) : Thing w h h' (.ref a) :=
  ⟨a, d, O, rfl, x.wide hn hl, fun p hp => ⟨(N p hp).1, (N p hp).2.2, hI p hp⟩⟩
theorem noit_dict {prog : Program} {w : World} {o : Obj} {kvs : List (Int × Value)} (h : o.IsDictOf (intKind prog w) kvs) : itc o.cls = false := by
  obtain ⟨_, _, hx, _⟩ := h
  rw [hx.1]; rfl
end Mine
end

section
namespace Mine
set_option maxRecDepth 100000
set_option maxHeartbeats 1000000
set_option linter.all false
noncomputable def ascB (x : Str) : Bool := x.cps.toList.all (fun c => decide (32 ≤ c) && decide (c < 127)) && decide (x.length ≤ 80)
theorem ok_of {x : Str} (h : ascB x = true) : Asc x ∧ x.length ≤ 80 := by
  unfold ascB at h
  rw [Bool.and_eq_true] at h
  refine ⟨fun c hc => ?_, of_decide_eq_true h.2⟩
  have := List.all_eq_true.mp h.1 c hc
  simpa using this
theorem ok_mul {n : Int} (h : n ≤ 80) : Asc (Txt.mul (Str.ofString "z") n) ∧ (Txt.mul (Str.ofString "z") n).length ≤ 80 := by
  have e : Str.ofString "z" = ⟨#[122]⟩ := by decide +kernel
  rw [e]
  refine ⟨fun c hc => ?_, len_mul_one rfl h⟩
  rw [mul_one_list] at hc
  have := List.eq_of_mem_replicate hc
  omega
theorem menu_list {M : Program} {w : World} {A : Around} {E : Value → Shared → Prop} {s : Shared} {Q : Value → Shared → Prop} {value slice : Expr} {l : Addr} {vs : List Value} {ws : List Str} {i : Int} {t : Tok}
    (hl : s.heap.IsList l vs.toArray) (hw : StrsAre vs ws) (h0 : 0 ≤ i) (h1 : i < (ws.length : Int)) (hfit : i < 2 ^ 63) (hok : ∀ x ∈ ws, Asc x ∧ x.length ≤ 80) (h : ∀ x t', Asc x → x.length ≤ 80 → Q (.str x t') s) (hs : subscripted slice false (.ref l) (.int i t) = operate [.ref l, .int i t] (getItem (.ref l) (.int i t)) := by rfl) :
    wpAny (model M w) A (subscriptTail value slice (.ref l) (.int i t)) Q E s := by
  refine KTb.item_list hl hw h0 h1 hfit (fun t' hi => ?_) hs
  have hm : ws.getD i.toNat Str.empty ∈ ws := by
    rw [List.getD_eq_getElem?_getD, List.getElem?_eq_getElem hi]; exact List.getElem_mem hi
  exact h _ _ (hok _ hm).1 (hok _ hm).2
theorem ok_z (y : Int) : Asc (Txt.mul (Str.ofString "z") (66 + Int.fmod y 8)) ∧ (Txt.mul (Str.ofString "z") (66 + Int.fmod y 8)).length ≤ 80 := by
  refine ok_mul ?_
  have := Int.fmod_lt_of_pos y (by decide : (0 : Int) < 8)
  omega
theorem all_cons {p : Str → Prop} {x : Str} {l : List Str} (h : p x) (r : ∀ y ∈ l, p y) : ∀ y ∈ x :: l, p y := List.forall_mem_cons.mpr ⟨h, r⟩
theorem getD_ok {ws : List Str} {i : Nat} (h : ∀ x ∈ ws, Asc x ∧ x.length ≤ 80) : Asc (ws.getD i Str.empty) ∧ (ws.getD i Str.empty).length ≤ 80 := by
  rw [List.getD_eq_getElem?_getD]
  cases e : ws[i]? with
  | none => exact ok_of (by decide +kernel)
  | some x => exact h x (List.mem_of_getElem? e)
noncomputable def thing_spec.Stm (w : World) (A : Around) (E : Value → Shared → Prop) (s : Shared) (base : Heap) (mg : Str → Option Value) (mb : Str → Option Value) (mean : ExcName → Option Value) (Q : Value → Shared → Prop) (outer : List Env) (x : Int) (t : Tok) : Prop := ∀  (B : Below A base outer s.heap) (X : (Mine.KC w.params).In s.heap) (T : Top EMP LS mean mg mb s.heap) (hh : A.handled = none) (hd : A.depth + 1 < recursionLimit) (h0 : 0 ≤ x) (h1 : x < 1000000) (ret : ∀ v h' tk, Kp s.heap h' → Thing w s.heap h' v → Q v { s with heap := h', toks := tk }), wpAny (model PROG w) A (call (.ref 103) [.int x t]) Q E s
noncomputable def thing_spec.cst : (World) × (Around) × (Value → Shared → Prop) × (Shared) × (Heap) × (Str → Option Value) × (Str → Option Value) × (ExcName → Option Value) × (Value → Shared → Prop) × (List Env) × (Int) × (Tok) := eps (aWorld 0, {}, fun _ _ => True, {}, {}, fun _ => none, fun _ => none, fun _ => none, fun _ _ => True, [], 0, 0) (fun q => thing_spec.Stm q.1 q.2.1 q.2.2.1 q.2.2.2.1 q.2.2.2.2.1 q.2.2.2.2.2.1 q.2.2.2.2.2.2.1 q.2.2.2.2.2.2.2.1 q.2.2.2.2.2.2.2.2.1 q.2.2.2.2.2.2.2.2.2.1 q.2.2.2.2.2.2.2.2.2.2.1 q.2.2.2.2.2.2.2.2.2.2.2)
namespace thing_spec
noncomputable def w : World := cst.1
noncomputable def s : Shared := cst.2.2.2.1
noncomputable def mg : Str → Option Value := cst.2.2.2.2.2.1
noncomputable def mb : Str → Option Value := cst.2.2.2.2.2.2.1
noncomputable def x : Int := cst.2.2.2.2.2.2.2.2.2.2.1
noncomputable def t : Tok := cst.2.2.2.2.2.2.2.2.2.2.2
noncomputable def L' : Addr := s.heap.objs.size
theorem it : Stm w cst.2.1 cst.2.2.1 s cst.2.2.2.2.1 mg mb cst.2.2.2.2.2.2.2.1 cst.2.2.2.2.2.2.2.2.1 cst.2.2.2.2.2.2.2.2.2.1 x t := by
  intro  B X T hh hd h0 h1 ret
  have hfill : (fun (_ : OpenLaw) (_ : Params → Frag) => True) PySem.Challenge.rw_nq0040_01 Mine.KC := by (k_fill; trivial)
  clear hfill
  w_top off
  k_dflt (refine' enterP0 (L := L') rfl (binds := [(Str.ofString "x", .int x t)]) ?k1 ?k2 ?k3 ?k6 ?k7 ?k8 ?k9 ?kB ?_ ?c2 ?c3 ?c4 ?c5; (case k1 => assumption); (case k2 => assumption); (case k3 => assumption); (case k6 => k_is); (case k7 => k_is); (case k8 => omega); (case k9 => first | exact BindsTo.of_eq rfl | exact binds_K (by assumption) rfl (by k_is) rfl rfl rfl); (case c5 => decide); (case kB => exact locs rfl); (case c2 => exact rfl); (case c3 => exact rfl); (case c4 => exact rfl); k_whole)
  intro h' F' N'
  try dsimp only
  k_fold
  refine block_at 4 (fun s' => ∃ h tk nu tn wo tw m tm y ty, s' = { s with heap := h, toks := tk } ∧ Asc nu ∧ nu.length ≤ 80 ∧ Asc wo ∧ wo.length ≤ 80 ∧ (1 ≤ m ∧ m ≤ 9) ∧ (0 ≤ y ∧ y < 1000000) ∧
    Fr s.heap L' h (fun z => if z = Str.ofString "m" then some (.int m tm) else if z = Str.ofString "word" then some (.str wo tw) else if z = Str.ofString "numeral" then some (.str nu tn) else if z = Str.ofString "y" then some (.int y ty) else List.lookup z [(Str.ofString "x", Value.int x t)].reverse)) ?_ ?_
  · dsimp only [List.take]
    repeat' (first | ((with_reducible show wpAny _ _ (subscriptTail _ _ (Value.ref _) (Value.int _ _)) _ _ _); refine' menu_list ?ma ?mb ?mc ?md ?me ?mf ?_ ?mg; (case mg => rfl); (case ma => ktb_isList); (case mb => repeat constructor); (case mc => ktb_idx); (case md => ktb_idx); (case me => ktb_idx); (case mf => repeat (first | exact List.forall_mem_nil _ | exact all_cons (ok_of (by decide +kernel)) (List.forall_mem_nil _) | refine all_cons (ok_of (by decide +kernel)) ?_ | refine all_cons (ok_z _) ?_)); intro _ _ _ _; try dsimp only) | ((with_reducible show wpAny _ _ (eval (PySem.Expr.Dict _ _ _) _) _ _ _); k_dflt (refine' kdn_eval (knd := PySem.intKind _ _) ?F ?N ?b ?a ?l ?e ?n ?_; (case F => k_asm); (case N => first | k_asm | exact News.nil); (case b => exact Top.nolimit (by k_asm)); (case a => rfl); (case l => rfl); (case e => exact List.cons_ne_nil _ _); (case n => exact Nat.le_of_ble_eq_true rfl)); intro _ _ _ _ _ l1 _ _; (try k_lt l1); revert l1; intro _) | walk_at "m1")
    rename_i F9 N9
    have b1 := Int.fmod_nonneg_of_pos (Int.fdiv x 6) (by decide : (0 : Int) < 9)
    have b2 := Int.fmod_lt_of_pos (Int.fdiv x 6) (by decide : (0 : Int) < 9)
    have b3 : Int.fdiv x 6 = x / 6 := Int.fdiv_eq_ediv_of_nonneg _ (by decide)
    refine' ⟨rfl, _, _, _, _, _, _, _, _, _, _, rfl, ?a1, ?a2, ?a3, ?a4, ?a5, ?a6, Fr.as F9 ?e⟩
    case e => (funext zz; by_cases hz0 : zz = PySem.Str.ofString "m"; (focus (subst hz0; rfl)); by_cases hz1 : zz = PySem.Str.ofString "word"; (focus (subst hz1; rfl)); by_cases hz2 : zz = PySem.Str.ofString "numeral"; (focus (subst hz2; rfl)); by_cases hz3 : zz = PySem.Str.ofString "y"; (focus (subst hz3; rfl)); (try dsimp only); (try simp only [if_neg hz0]); (try simp only [if_neg hz1]); (try simp only [if_neg hz2]); (try simp only [if_neg hz3]); (try rfl))
    case a1 => first | assumption | exact (getD_ok (by repeat (first | exact List.forall_mem_nil _ | refine all_cons (ok_of (by decide +kernel)) ?_))).1
    case a2 => first | assumption | exact (getD_ok (by repeat (first | exact List.forall_mem_nil _ | refine all_cons (ok_of (by decide +kernel)) ?_))).2
    case a3 => assumption
    case a4 => assumption
    case a5 => omega
    case a6 => omega
  · rintro s' ⟨h2, tk1, nu, tn, wo, tw, m, tm, y, ty, rfl, hna, hnl, hwa, hwl, hm, hy, F1⟩
    have N1 : News s.heap L' h2 [] := News.nil
    clear F' N'
    dsimp only [List.drop]
    have b1 := Int.fmod_nonneg_of_pos (Int.fdiv y 9) (by decide : (0 : Int) < 500)
    have b2 := Int.fmod_lt_of_pos (Int.fdiv y 9) (by decide : (0 : Int) < 500)
    obtain ⟨⟨n3, hn3, hn0, hn1⟩, hl3⟩ := int_text3 (a := m) (b := (Int.fdiv y 9).fmod 500) (c := m) ⟨by omega, by omega⟩ ⟨b1, b2⟩ ⟨by omega, by omega⟩
    have pw : ∀ O, Part w O (.str wo tw) (.str wo) 1 162 := fun O => part_str hwa hwl
    have pn : ∀ O, Part w O (.str nu tn) (.str nu) 1 162 := fun O => part_str hna hnl
    have pm : ∀ O t, Part w O (.int m t) (.int m) 1 11 := fun O t => part_int (by omega) (by omega)
    have p3 : ∀ O t, Part w O (.int n3 t) (.int n3) 1 11 := fun O t => part_int hn0 hn1
    repeat' (first | ((with_reducible show wpAny _ _ (subscriptTail _ _ (Value.ref _) (Value.int _ _)) _ _ _); refine' menu_list ?ma ?mb ?mc ?md ?me ?mf ?_ ?mg; (case mg => rfl); (case ma => ktb_isList); (case mb => repeat constructor); (case mc => ktb_idx); (case md => ktb_idx); (case me => ktb_idx); (case mf => repeat (first | exact List.forall_mem_nil _ | exact all_cons (ok_of (by decide +kernel)) (List.forall_mem_nil _) | refine all_cons (ok_of (by decide +kernel)) ?_ | refine all_cons (ok_z _) ?_)); intro _ _ _ _; try dsimp only) | ((with_reducible show wpAny _ _ (eval (PySem.Expr.Dict _ _ _) _) _ _ _); k_dflt (refine' kdn_eval (knd := PySem.intKind _ _) ?F ?N ?b ?a ?l ?e ?n ?_; (case F => k_asm); (case N => first | k_asm | exact News.nil); (case b => exact Top.nolimit (by k_asm)); (case a => rfl); (case l => rfl); (case e => exact List.cons_ne_nil _ _); (case n => exact Nat.le_of_ble_eq_true rfl)); intro _ _ _ _ _ l1 _ _; (try k_lt l1); revert l1; intro _) | walk_at "m1")
    · refine ret _ _ _ (Fr.keep (by assumption)) (Thing.of (by assumption) (by repeat (first | exact NoIt.nil | refine NoIt.cons rfl ?_ | refine NoIt.cons (noit_dict (by assumption)) ?_)) (part_tup (.head _) rfl rfl (.cons (pw _) (.cons (pn _) .nil)) (by simp) (by omega)) (by omega) (by omega))
    · refine ret _ _ _ (Fr.keep (by assumption)) (Thing.of (by assumption) (by repeat (first | exact NoIt.nil | refine NoIt.cons rfl ?_ | refine NoIt.cons (noit_dict (by assumption)) ?_)) (part_list (.head _) rfl rfl (.cons (part_tup (.tail _ (.head _)) rfl rfl (.cons (pw _) (.cons (pn _) .nil)) (by simp) (by omega)) .nil) (by simp) (by omega)) (by omega) (by omega))
    · refine ret _ _ _ (Fr.keep (by assumption)) (Thing.of (by assumption) (by repeat (first | exact NoIt.nil | refine NoIt.cons rfl ?_ | refine NoIt.cons (noit_dict (by assumption)) ?_)) (part_tup (.head _) rfl rfl (.cons (pm _ _) (.cons (pm _ _) (.cons (p3 _ _) .nil))) (by simp) (by omega)) (by omega) (by omega))
    · refine ret _ _ _ (Fr.keep (by assumption)) (Thing.of (by assumption) (by repeat (first | exact NoIt.nil | refine NoIt.cons rfl ?_ | refine NoIt.cons (noit_dict (by assumption)) ?_)) (part_tup (.head _) rfl rfl (.cons (pn _) .nil) (by simp) (by omega)) (by omega) (by omega))
    · refine ret _ _ _ (Fr.keep (by assumption)) (Thing.of (by assumption) (by repeat (first | exact NoIt.nil | refine NoIt.cons rfl ?_ | refine NoIt.cons (noit_dict (by assumption)) ?_)) (part_tup (.head _) rfl rfl (.cons (pw _) (.cons (pn _) (.cons (pm _ _) .nil))) (by simp) (by omega)) (by omega) (by omega))
    · rename_i lo _ _ _ _ _ _ _ _ _ _ _ _
      refine ret _ _ _ (Fr.keep (by assumption)) (Thing.of (by assumption) (by repeat (first | exact NoIt.nil | refine NoIt.cons rfl ?_ | refine NoIt.cons (noit_dict (by assumption)) ?_)) (part_dict (by k_mem) (by assumption) (by assumption) (by omega) (by omega) (part_tup (vs := [.str wo tw, .str nu tn]) (by k_mem) rfl rfl (.cons (pw _) (.cons (pn _) .nil)) (by simp) (by omega)) (by omega)) (by omega) (by omega))
    · refine ret _ _ _ (Fr.keep (by assumption)) (Thing.of (by assumption) (by repeat (first | exact NoIt.nil | refine NoIt.cons rfl ?_ | refine NoIt.cons (noit_dict (by assumption)) ?_)) (part_tup (.head _) rfl rfl (.cons (pn _) (.cons (pw _) .nil)) (by simp) (by omega)) (by omega) (by omega))
    · refine ret _ _ _ (Fr.keep (by assumption)) (Thing.of (by assumption) (by repeat (first | exact NoIt.nil | refine NoIt.cons rfl ?_ | refine NoIt.cons (noit_dict (by assumption)) ?_)) (part_tup (n := 2) (.head _) rfl rfl (.cons (part_tup (.tail _ (.head _)) rfl rfl (.cons (pw _) (.cons (pn _) .nil)) (by simp) (by omega)) (.cons ((pm _ _).up (by omega)) .nil)) (by simp) (by omega)) (by omega) (by omega))
end thing_spec
theorem thing_spec {w : World} {A : Around} {E : Value → Shared → Prop} {s : Shared} {base : Heap} {mg : Str → Option Value} {mb : Str → Option Value} {mean : ExcName → Option Value} {Q : Value → Shared → Prop} {outer : List Env} {x : Int} {t : Tok} 
   (B : Below A base outer s.heap) (X : (Mine.KC w.params).In s.heap) (T : Top EMP LS mean mg mb s.heap) (hh : A.handled = none) (hd : A.depth + 1 < recursionLimit) (h0 : 0 ≤ x) (h1 : x < 1000000) (ret : ∀ v h' tk, Kp s.heap h' → Thing w s.heap h' v → Q v { s with heap := h', toks := tk }) : wpAny (model PROG w) A (call (.ref 103) [.int x t]) Q E s :=
  (eps_at (G := fun q => thing_spec.Stm q.1 q.2.1 q.2.2.1 q.2.2.2.1 q.2.2.2.2.1 q.2.2.2.2.2.1 q.2.2.2.2.2.2.1 q.2.2.2.2.2.2.2.1 q.2.2.2.2.2.2.2.2.1 q.2.2.2.2.2.2.2.2.2.1 q.2.2.2.2.2.2.2.2.2.2.1 q.2.2.2.2.2.2.2.2.2.2.2) (c := thing_spec.cst) rfl thing_spec.it (w, A, E, s, base, mg, mb, mean, Q, outer, x, t) : thing_spec.Stm w A E s base mg mb mean Q outer x t)  B X T hh hd h0 h1 ret
end Mine
end

section
set_option linter.all false
namespace Mine
section
variable {prog : Program} {w : World} {A : Around} {E : Value → Shared → Prop} {s : Shared} {env : Env} {L : Addr} {h₀ : Heap} {x : Str} {body : List Stmt} {Q : Flow → Shared → Prop}
theorem forR (he : env.locals = L) {r : Addr} {a b : Int} {t u v : Tok} {n : Nat} {m₀ : Str → Option Value} {news : List (Addr × Obj)} (J : Nat → (Str → Option Value) → List (Addr × Obj) → Prop)
    (hh : A.handled = none) (hr : IsRange s.heap r a b 1 t u v) (hsm : Builtin.Range.small a b 1 = true) (hn : Builtin.Range.rangeSize a b 1 = ((n : Nat) : Int))
    (F : Fr h₀ L s.heap m₀) (N : News h₀ L s.heap news) (hj : J 0 m₀ news) (hJ : ∀ i m nw, J i m nw → NoItB news nw)
    (turn : ∀ i t m₁ news₁ h tk own, i < n → J i m₁ news₁ → Fr h₀ L h (fun y => if y = x then some (.int (a + (i : Int)) t) else m₁ y) → News h₀ L h (news₁ ++ own) → (∀ q ∈ own, q.1 = s.heap.objs.size) →
      wpAny (model prog w) A (execs body env) (TurnEnd h₀ L (J (i + 1)) own { s with heap := h, toks := tk } Q) E { s with heap := h, toks := tk })
    (done : ∀ m₁ news₁ h tk, J n m₁ news₁ → Fr h₀ L h m₁ → News h₀ L h news₁ → Q .next { s with heap := h, toks := tk }) :
    wpAny (model prog w) A (pyIter (.ref r)) (fun it s₂ => LoopAtV prog w A h₀ env x body Q E it s₂) E s := by
  subst he
  refine wpAny_pyIter_range hr hsm ?_
  have W := LCg.range_walks (prog := prog) (w := w) (A := A) (I := s.heap.objs.size) hh a n
  refine loop_gen J (fun p hp => Nat.ne_of_lt (Heap.lt_size (N p hp).1)) W (fun i h st => ⟨_, st, rfl⟩) ?_ (next_is_new F) (by show IsRangeIter _ _ _ _ _; rw [hn]; simpa using Heap.get?_push_size _ rfl)
    (F.push _) (fun p hp => ⟨Heap.get?_push_of_some _ (N p hp).1, (N p hp).2⟩) hj hJ ?_ ?_
  · intro hm
    exact absurd F.ns.lt ((List.mem_singleton.mp hm) ▸ Nat.lt_irrefl _)
  · rintro i v m₁ news₁ h tk own hi ⟨t', rfl⟩ hJi F₁ N₁ hown ho
    exact turn i t' m₁ news₁ h tk own hi hJi F₁ N₁ (fun q hq => List.mem_singleton.mp (ho q hq))
  · exact done
end
end Mine
end

section
namespace Mine
set_option maxRecDepth 100000
set_option maxHeartbeats 1000000
set_option linter.all false
noncomputable def Each (w : World) (O : List (Addr × Obj)) (vs : List Value) (ds : List PyData) : Prop := vs.length = ds.length ∧ ∀ (i : Nat) v d, vs[i]? = some v → ds[i]? = some d → (∃ a, v = .ref a) ∧ Part w O v d 4 400
theorem Each.nil {w : World} {O : List (Addr × Obj)} : Each w O [] [] := ⟨rfl, fun i v d e => by simp at e⟩
theorem Each.more {w : World} {O O' : List (Addr × Obj)} {vs : List Value} {ds : List PyData} (x : Each w O vs ds) (s : ∀ p ∈ O, p ∈ O') : Each w O' vs ds := ⟨x.1, fun i v d e e2 => ⟨(x.2 i v d e e2).1, (x.2 i v d e e2).2.more s⟩⟩
theorem Each.snoc {w : World} {O : List (Addr × Obj)} {vs : List Value} {ds : List PyData} {a : Addr} {d : PyData} (x : Each w O vs ds) (y : Part w O (.ref a) d 4 400) : Each w O (vs ++ [.ref a]) (ds ++ [d]) := by
  refine ⟨by simp [x.1], fun i v d' e e2 => ?_⟩
  by_cases h : i < vs.length
  · rw [List.getElem?_append_left h] at e
    rw [List.getElem?_append_left (x.1 ▸ h)] at e2
    exact x.2 i v d' e e2
  · rw [List.getElem?_append_right (by omega)] at e
    rw [List.getElem?_append_right (by have := x.1; omega)] at e2
    have hi : i - vs.length = 0 := by
      have := (List.getElem?_eq_some_iff.mp e).1
      simp at this; omega
    rw [hi] at e
    rw [← x.1, hi] at e2
    simp at e e2
    subst e e2
    exact ⟨⟨a, rfl⟩, y⟩
noncomputable abbrev lobj (vs : List Value) (z : Nat) : Obj := { cls := .type "list", data := .seq vs.toArray z }
noncomputable abbrev thingsMap (l D : Addr) (ok : Option Value) : Str → Option Value := fun z => if z = Str.ofString "k" then ok else if z = Str.ofString "things" then some (.ref D) else List.lookup z [(Str.ofString "row", Value.ref l)].reverse
theorem min8 {prog : Program} {w : World} {A : Around} {E : Value → Shared → Prop} {s : Shared} {Q : Value → Shared → Prop} {n : Nat} {t u : Tok} (hh : A.handled = none)
    (h : ∀ q h' tk tk', Hold (q ≤ 8) → q ≤ n → Kp s.heap h' → Q (.int (q : Nat) tk') { s with heap := h', toks := tk }) : wpAny (model prog w) A (call (.builtin "min") [.int 8 t, .int (n : Int) u]) Q E s := by
  refine min_two_ints hh fun h' tk k => ?_
  split
  · exact h n h' tk u ⟨by omega⟩ (Nat.le_refl _) k
  · exact h 8 h' tk t ⟨Nat.le_refl _⟩ (by omega) k
theorem size_upto (q : Nat) : Builtin.Range.rangeSize 0 (q : Int) 1 = ((q : Nat) : Int) := by
  simp [Builtin.Range.rangeSize]; omega
theorem small_upto {q : Nat} (h : q ≤ 100) : Builtin.Range.small 0 (q : Int) 1 = true := by
  exact small_one (by omega) (by omega) (by omega) (by omega)
noncomputable def First (ds : List PyData) : Prop := ∃ r, ds = .tuple [.str (Str.ofString "|"), .str (Str.ofString " 21 ")] :: .tuple [.int 5, .int 5, .int 5805] :: r
theorem First.snoc {ds : List PyData} (x : First ds) (d : PyData) : First (ds ++ [d]) := by
  obtain ⟨r, rfl⟩ := x
  exact ⟨r ++ [d], rfl⟩
noncomputable def ThingsMid (w : World) (s : Shared) (L l : Addr) (s' : Shared) : Prop := ∃ (h : Heap) (tk : Nat) (D : Addr) (ws : List Value) (z : Nat) (ds : List PyData) (O : List (Addr × Obj)), s' = { s with heap := h, toks := tk } ∧ Fr s.heap L h (thingsMap l D none) ∧ News s.heap L h ((D, lobj ws z) :: O) ∧ (∀ p ∈ O, p.1 ≠ D) ∧ NoIt O ∧ Each w O ws ds ∧ ws.length = 6 ∧ First ds
noncomputable def things_spec.Stm (w : World) (A : Around) (E : Value → Shared → Prop) (s : Shared) (base : Heap) (mg : Str → Option Value) (mb : Str → Option Value) (mean : ExcName → Option Value) (Q : Value → Shared → Prop) (outer : List Env) (l : Addr) (vs : List Value) (ns : List Int) : Prop := ∀  (B : Below A base outer s.heap) (X : (Mine.KC w.params).In s.heap) (T : Top EMP LS mean mg mb s.heap) (hh : A.handled = none) (hd : A.depth + 2 < recursionLimit) (hl : s.heap.IsList l vs.toArray) (hi : IntsAre vs ns) (hn : ns.length ≤ 63) (hr : ∀ n ∈ ns, 0 ≤ n ∧ n < 1000000) (ret : ∀ v h' tk, Kp s.heap h' → (∃ D ws z ds O, v = .ref D ∧ (∃ L, News s.heap L h' ((D, lobj ws z) :: O)) ∧ Each w O ws ds ∧ 6 ≤ ws.length ∧ ws.length ≤ 14 ∧ First ds) → Q v { s with heap := h', toks := tk }), wpAny (model PROG w) A (call (.ref 110) [.ref l]) Q E s
noncomputable def things_spec.cst : (World) × (Around) × (Value → Shared → Prop) × (Shared) × (Heap) × (Str → Option Value) × (Str → Option Value) × (ExcName → Option Value) × (Value → Shared → Prop) × (List Env) × (Addr) × (List Value) × (List Int) := eps (aWorld 0, {}, fun _ _ => True, {}, {}, fun _ => none, fun _ => none, fun _ => none, fun _ _ => True, [], 0, [], []) (fun q => things_spec.Stm q.1 q.2.1 q.2.2.1 q.2.2.2.1 q.2.2.2.2.1 q.2.2.2.2.2.1 q.2.2.2.2.2.2.1 q.2.2.2.2.2.2.2.1 q.2.2.2.2.2.2.2.2.1 q.2.2.2.2.2.2.2.2.2.1 q.2.2.2.2.2.2.2.2.2.2.1 q.2.2.2.2.2.2.2.2.2.2.2.1 q.2.2.2.2.2.2.2.2.2.2.2.2)
namespace things_spec
noncomputable def w : World := cst.1
noncomputable def A : Around := cst.2.1
noncomputable def s : Shared := cst.2.2.2.1
noncomputable def l : Addr := cst.2.2.2.2.2.2.2.2.2.2.1
noncomputable def vs : List Value := cst.2.2.2.2.2.2.2.2.2.2.2.1
noncomputable def ns : List Int := cst.2.2.2.2.2.2.2.2.2.2.2.2
noncomputable def L' : Addr := s.heap.objs.size
theorem it : Stm w A cst.2.2.1 s cst.2.2.2.2.1 cst.2.2.2.2.2.1 cst.2.2.2.2.2.2.1 cst.2.2.2.2.2.2.2.1 cst.2.2.2.2.2.2.2.2.1 cst.2.2.2.2.2.2.2.2.2.1 l vs ns := by
  intro  B X T hh hd hl hi hn hr ret
  have hfill : (fun (_ : OpenLaw) (_ : Params → Frag) => True) PySem.Challenge.rw_nq0040_01 Mine.KC := by (k_fill; trivial)
  clear hfill
  w_top off
  k_dflt (refine' enterP0 (L := L') rfl (binds := [(Str.ofString "row", .ref l)]) ?k1 ?k2 ?k3 ?k6 ?k7 ?k8 ?k9 ?kB ?_ ?c2 ?c3 ?c4 ?c5; (case k1 => assumption); (case k2 => assumption); (case k3 => assumption); (case k6 => k_is); (case k7 => k_is); (case k8 => omega); (case k9 => first | exact BindsTo.of_eq rfl | exact binds_K (by assumption) rfl (by k_is) rfl rfl rfl); (case c5 => decide); (case kB => exact locs rfl); (case c2 => exact rfl); (case c3 => exact rfl); (case c4 => exact rfl); k_whole)
  intro h' F' N'
  try dsimp only
  k_fold
  with_reducible refine block_at 1 (ThingsMid w s L' l) ?_ ?_
  · dsimp only [List.take]
    repeat' (first | ((with_reducible show wpAny _ _ (call (Value.builtin "list.append") _ _) _ _ _); refine Hold.it ?_) | walk_at "m1")
    rename_i F9 N9
    refine' ⟨rfl, _, _, _, [_, _, _, _, _, _], 0, [.tuple [.str (Str.ofString "|"), .str (Str.ofString " 21 ")], .tuple [.int 5, .int 5, .int 5805], .list [.tuple [.str (Str.ofString "a"), .str (Str.ofString "+8")]], .tuple [.str (Str.ofString "zzzzzzzzzzzzzzzzzzzzzzzzzzzzzzzzzzzzzzzzzzzzzzzzzzzzzzzzzzzzzzzzzzzzzzzz"), .str (Str.ofString "443")], .tuple [.str (Str.ofString "zzzzzzzzzzzzzzzzzzzzzzzzzzzzzzzzzzzzzzzzzzzzzzzzzzzzzzzzzzzzzzzzzzzzzz"), .str (Str.ofString "80")], .tuple [.str (Str.ofString "it's"), .str (Str.ofString "8")]], _, rfl, Fr.as F9 ?e, N9, ?off, ?nt, ?ea, rfl, ⟨_, rfl⟩⟩
    case e => (funext zz; by_cases hz0 : zz = PySem.Str.ofString "k"; (focus (subst hz0; rfl)); by_cases hz1 : zz = PySem.Str.ofString "things"; (focus (subst hz1; rfl)); (try dsimp only); (try simp only [if_neg hz0]); (try simp only [if_neg hz1]); (try rfl))
    case nt => repeat (first | exact NoIt.nil | refine NoIt.cons rfl ?_)
    case off =>
      repeat (first | exact List.forall_mem_nil _ | refine List.forall_mem_cons.mpr ⟨by (show @Ne Nat _ _); omega, ?_⟩)
    case ea =>
      have ps : ∀ O x t, ascB x = true → Part w O (.str x t) (.str x) 1 162 := fun O x t h => part_str (ok_of h).1 (ok_of h).2
      have pi : ∀ O n t, 0 ≤ n → n < 10 ^ 10 → Part w O (.int n t) (.int n) 1 11 := fun O n t h0 h1 => part_int h0 h1
      refine Each.snoc (ds := [_, _, _, _, _]) (vs := [_, _, _, _, _]) (Each.snoc (ds := [_, _, _, _]) (vs := [_, _, _, _]) (Each.snoc (ds := [_, _, _]) (vs := [_, _, _]) (Each.snoc (ds := [_, _]) (vs := [_, _]) (Each.snoc (ds := [_]) (vs := [_]) (Each.snoc Each.nil ?p1) ?p2) ?p3) ?p4) ?p5) ?p6
      case p1 => exact (part_tup (by k_mem) rfl rfl (.cons (ps _ _ _ (by decide +kernel)) (.cons (ps _ _ _ (by decide +kernel)) .nil)) (by simp) (by omega)).wide (by omega) (by omega)
      case p2 => exact (part_tup (by k_mem) rfl rfl (.cons (pi _ _ _ (by omega) (by omega)) (.cons (pi _ _ _ (by omega) (by omega)) (.cons (pi _ _ _ (by omega) (by omega)) .nil))) (by simp) (by omega)).wide (by omega) (by omega)
      case p3 => exact (part_list (vs := [_]) (by k_mem) rfl rfl (.cons (part_tup (by k_mem) rfl rfl (.cons (ps _ _ _ (by decide +kernel)) (.cons (ps _ _ _ (by decide +kernel)) .nil)) (by simp) (by omega)) .nil) (by simp) (by omega)).wide (by omega) (by omega)
      case p4 => exact (part_tup (by k_mem) rfl rfl (.cons (ps _ _ _ (by decide +kernel)) (.cons (ps _ _ _ (by decide +kernel)) .nil)) (by simp) (by omega)).wide (by omega) (by omega)
      case p5 => exact (part_tup (by k_mem) rfl rfl (.cons (ps _ _ _ (by decide +kernel)) (.cons (ps _ _ _ (by decide +kernel)) .nil)) (by simp) (by omega)).wide (by omega) (by omega)
      case p6 => exact (part_tup (by k_mem) rfl rfl (.cons (ps _ _ _ (by decide +kernel)) (.cons (ps _ _ _ (by decide +kernel)) .nil)) (by simp) (by omega)).wide (by omega) (by omega)
  · rintro s' ⟨h1, tk1, D, ws, z, ds, O, rfl, F1, N1, off, hno, hea, hlen, hfi⟩
    dsimp only [List.drop]
    clear F' N'
    refine wpAny_execs_cons ?_
    refine For_invVF F1 rfl rfl ?_
    repeat' (first | ((with_reducible show wpAny _ _ (call (Value.builtin "list.append") _ _) _ _ _); refine Hold.it ?_) | walk_at "m1")
    refine min8 hh ?_
    intro q h2 tk2 tq hq8 hqn k2
    have F2 := F1.keeps k2
    have N2 := N1.grown k2
    clear F1 N1
    repeat' (first | ((with_reducible show wpAny _ _ (call (Value.builtin "list.append") _ _) _ _ _); refine Hold.it ?_) | walk_at "m1")
    rename_i h3 tk3 t3 u3 v3 hr3 F3 N3 k3
    have hDlt : D ≠ h3.objs.size := Nat.ne_of_lt (Heap.lt_size (N3.get (.head _)))
    refine forR (L := L') (n := q) rfl (fun i m news => ∃ ok ws z ds O, m = thingsMap l D ok ∧ news = (D, lobj ws z) :: O ∧ (∀ p ∈ O, p.1 ≠ D) ∧ NoIt O ∧ Each w O ws ds ∧ ws.length = 6 + i ∧ First ds) hh hr3 ?_ ?_ F3 N3 ⟨none, ws, z, ds, O, rfl, rfl, off, hno, hea, hlen, hfi⟩ ?_ ?_ ?_
    · exact small_upto (by omega)
    · exact size_upto q
    · rintro _ _ _ ⟨ok, ws, z, ds, O, _, rfl, off, hno, _⟩
      exact NoItB.of (NoIt.cons rfl hno)
    · rintro i ti m₁ news₁ h4 tk4 own hi4 ⟨ok, ws, z, ds, O, rfl, rfl, off, hno, hea, hlen, hfi⟩ F4 N4 ho
      have hlg : h4.IsList l vs.toArray := hl.at fun o e => F4.keep l o e
      clear F3 N3
      simp only [List.cons_append] at N4
      have hpick := IntsAre.pick hi (some (0 + (i : Int))) none (some 8)
      generalize pickNums ns (some (0 + (i : Int))) none (some 8) = ks at hpick
      repeat' (first | ((with_reducible show wpAny _ _ (call (Value.builtin "list.append") _ _) _ _ _); refine Hold.it ?_) | walk_at "m1")
      rename_i h5 F5 N5
      refine LSm.sum_ints (vs := (slicePick vs.toArray (some (0 + (i : Int))) none (some 8)).toList) F5 N5 hh ⟨_, N5.get (.head _), rfl, _, by simp; rfl⟩ hpick ?_
      intro h6 tk6 t6 F6 N6
      clear F5 N5
      generalize ks.sum = su
      repeat' (first | ((with_reducible show wpAny _ _ (call (Value.builtin "list.append") _ _) _ _ _); refine Hold.it ?_) | walk_at "m1")
      have N7 : News s.heap L' h6 ((D, lobj ws z) :: (O ++ own)) := fun p hp => N6 p (.tail _ hp)
      clear N6
      have s0 := Int.fmod_nonneg_of_pos su (by decide : (0 : Int) < 1000000)
      have s1 := Int.fmod_lt_of_pos su (by decide : (0 : Int) < 1000000)
      refine thing_spec (B.push F6) (X.keeps F6.keep) (T.keeps F6.keep) hh ?_ s0 s1 ?_
      · show A.depth + 1 + 1 < recursionLimit; omega
      rintro v h8 tk8 k8 ⟨a, d, O2, rfl, P2, l2⟩
      have F8 := F6.keeps k8
      have N8 := N7.grown k8
      dsimp only at l2 k8
      have F6k : Kp s.heap h6 := F6.keep
      obtain ⟨oL, hL6⟩ : ∃ o, h6.get? L' = some o := by obtain ⟨o, _, _, ho, _⟩ := F6.ns; exact ⟨o, ho⟩
      have hD6 := N7.get (.head _)
      have hoD : ∀ p ∈ own, p.1 ≠ D := fun p hp e => by
        have h1 := ho p hp
        rw [e] at h1
        exact hDlt h1
      clear F6 N7
      repeat' (first | ((with_reducible show wpAny _ _ (call (Value.builtin "list.append") _ _) _ _ _); refine Hold.it ?_) | walk_at "m1")
      refine ⟨?_⟩
      have hD := N8.get (.head _)
      refine append_at (its := ws.toArray) (n := z) hD ?_ ?_
      · intro h9 hs9 hD9
        have F9 := F8.change hs9 (N8 _ (.head _)).2.1 (N8 _ (.head _)).2.2
        have hkp : Kp s.heap h6 := F6k
        have offO : ∀ p ∈ O ++ own, p.1 ≠ D := fun p hp => by
          rcases List.mem_append.mp hp with hp | hp
          · exact off p hp
          · exact hoD p hp
        have off2 : ∀ p ∈ O2, p.1 ≠ D := fun p hp e => by
          have := (l2 p hp).2.1
          rw [e, hD6] at this; cases this
        have N9 : News s.heap L' h9 ((D, lobj (ws ++ [.ref a]) (z + 1)) :: (O2 ++ O ++ own)) := fun p hp => by
          rcases List.mem_cons.mp hp with rfl | hp
          · refine ⟨?_, (N8 _ (.head _)).2⟩
            rw [hD9]; simp [lobj]
          · rcases List.mem_append.mp hp with hp | hp
            · rcases List.mem_append.mp hp with hp | hp
              · have h6n := (l2 p hp).2.1
                refine ⟨hs9.extBut _ _ (off2 p hp) (l2 p hp).1, fun e => ?_, kts_none hkp h6n⟩
                rw [e, hL6] at h6n; cases h6n
              · exact ⟨hs9.extBut _ _ (off p hp) (N8 p (.tail _ (List.mem_append_left _ hp))).1, (N8 p (.tail _ (List.mem_append_left _ hp))).2⟩
            · exact ⟨hs9.extBut _ _ (offO p (List.mem_append_right _ hp)) (N8 p (.tail _ (List.mem_append_right _ hp))).1, (N8 p (.tail _ (List.mem_append_right _ hp))).2⟩
        clear N8 F8
        repeat' (first | ((with_reducible show wpAny _ _ (call (Value.builtin "list.append") _ _) _ _ _); refine Hold.it ?_) | walk_at "m1")
        refine TurnEnd.go ((D, lobj (ws ++ [.ref a]) (z + 1)) :: (O2 ++ O)) F9 N9 (fun p hp => ?_) ⟨some (.int (0 + (i : Int)) ti), ws ++ [.ref a], z + 1, ds ++ [d], O2 ++ O, ?_, rfl, ?_, ?_, ?_, ?_, hfi.snoc d⟩
        · simpa using hp
        · (funext zz; by_cases hz0 : zz = PySem.Str.ofString "k"; (focus (subst hz0; rfl)); by_cases hz1 : zz = PySem.Str.ofString "things"; (focus (subst hz1; rfl)); (try dsimp only); (try simp only [if_neg hz0]); (try simp only [if_neg hz1]); (try rfl))
        · intro p hp
          rcases List.mem_append.mp hp with hp | hp
          · exact off2 p hp
          · exact off p hp
        · exact NoIt.append (fun p hp => (l2 p hp).2.2) hno
        · exact (hea.more fun p hp => List.mem_append_right _ hp).snoc (P2.more fun p hp => List.mem_append_left _ hp)
        · simp [hlen]; omega
      · show ws.length ≤ sizeLine
        rw [sizeLine_eq]
        have := hq8.it
        omega
    · rintro m₁ news₁ h4 tk4 ⟨ok, ws, z, ds, O, rfl, rfl, off, hno, hea, hlen, hfi⟩ F4 N4
      clear F3 N3
      have := hq8.it
      repeat' (first | ((with_reducible show wpAny _ _ (call (Value.builtin "list.append") _ _) _ _ _); refine Hold.it ?_) | walk_at "m1")
      dsimp only
      exact ret _ _ _ F4.keep ⟨D, ws, z, ds, O, rfl, ⟨_, N4⟩, hea, by omega, by omega, hfi⟩
end things_spec
theorem things_spec {w : World} {A : Around} {E : Value → Shared → Prop} {s : Shared} {base : Heap} {mg : Str → Option Value} {mb : Str → Option Value} {mean : ExcName → Option Value} {Q : Value → Shared → Prop} {outer : List Env} {l : Addr} {vs : List Value} {ns : List Int} 
   (B : Below A base outer s.heap) (X : (Mine.KC w.params).In s.heap) (T : Top EMP LS mean mg mb s.heap) (hh : A.handled = none) (hd : A.depth + 2 < recursionLimit) (hl : s.heap.IsList l vs.toArray) (hi : IntsAre vs ns) (hn : ns.length ≤ 63) (hr : ∀ n ∈ ns, 0 ≤ n ∧ n < 1000000) (ret : ∀ v h' tk, Kp s.heap h' → (∃ D ws z ds O, v = .ref D ∧ (∃ L, News s.heap L h' ((D, lobj ws z) :: O)) ∧ Each w O ws ds ∧ 6 ≤ ws.length ∧ ws.length ≤ 14 ∧ First ds) → Q v { s with heap := h', toks := tk }) : wpAny (model PROG w) A (call (.ref 110) [.ref l]) Q E s :=
  (eps_at (G := fun q => things_spec.Stm q.1 q.2.1 q.2.2.1 q.2.2.2.1 q.2.2.2.2.1 q.2.2.2.2.2.1 q.2.2.2.2.2.2.1 q.2.2.2.2.2.2.2.1 q.2.2.2.2.2.2.2.2.1 q.2.2.2.2.2.2.2.2.2.1 q.2.2.2.2.2.2.2.2.2.2.1 q.2.2.2.2.2.2.2.2.2.2.2.1 q.2.2.2.2.2.2.2.2.2.2.2.2) (c := things_spec.cst) rfl things_spec.it (w, A, E, s, base, mg, mb, mean, Q, outer, l, vs, ns) : things_spec.Stm w A E s base mg mb mean Q outer l vs ns)  B X T hh hd hl hi hn hr ret
end Mine
end

section
namespace Mine
set_option maxRecDepth 100000
set_option maxHeartbeats 1000000
set_option linter.all false
noncomputable def portF (r : Str) : Int := match parseF r with | .ok n => n | _ => 0
theorem portF_of {r : Str} {n : Int} (h : parseF r = .ok n) : portF r = n := by unfold portF; rw [h]
noncomputable def posF (l : List Str) (p : Int) : Nat := (l.takeWhile fun y => decide (p ≤ portF y)).length
noncomputable def layF (l : List Str) (r : Str) : List Str := l.take (posF l (portF r)) ++ r :: l.drop (posF l (portF r))
noncomputable def laidF (rs : List Str) : List Str := rs.foldl layF []
noncomputable abbrev laidMap (l D : Addr) (o1 o2 o3 : Option Value) : Str → Option Value := fun y =>
  if y = Str.ofString "k" then o3 else if y = Str.ofString "port" then o2 else if y = Str.ofString "reply" then o1 else if y = Str.ofString "laid" then some (.ref D) else
  List.lookup y [(Str.ofString "replies", Value.ref l)].reverse
theorem posF_le (l : List Str) (p : Int) : posF l p ≤ l.length := by unfold posF; exact (List.takeWhile_sublist _).length_le
theorem posF_go {l : List Str} {p : Int} {k : Nat} {y : Str} (hk : k ≤ posF l p) (hy : l[k]? = some y) (h : p ≤ portF y) : k + 1 ≤ posF l p := by
  unfold posF at hk ⊢
  induction l generalizing k with
  | nil => simp at hy
  | cons a r ih =>
    cases k with
    | zero =>
      simp at hy
      subst hy
      rw [List.takeWhile_cons_of_pos (by simpa using h)]
      simp
    | succ k =>
      simp only [List.takeWhile_cons] at hk ⊢
      split at hk
      · simp only [List.length_cons] at hk
        rename_i hc
        rw [if_pos hc, List.length_cons]
        have := ih (k := k) (by omega) (by simpa using hy)
        omega
      · simp at hk
theorem posF_stop {l : List Str} {p : Int} {k : Nat} {y : Str} (hk : k ≤ posF l p) (hy : l[k]? = some y) (h : ¬ p ≤ portF y) : k = posF l p := by
  unfold posF at hk ⊢
  induction l generalizing k with
  | nil => simp at hy
  | cons a r ih =>
    cases k with
    | zero =>
      simp at hy
      subst hy
      rw [List.takeWhile_cons_of_neg (by simpa using h)]
      simp
    | succ k =>
      simp only [List.takeWhile_cons] at hk ⊢
      split at hk
      · simp only [List.length_cons] at hk
        rename_i hc
        rw [if_pos hc, List.length_cons]
        have := ih (k := k) (by omega) (by simpa using hy)
        omega
      · simp at hk
theorem posF_end {l : List Str} {p : Int} {k : Nat} (hk : k ≤ posF l p) (h : ¬ k < l.length) : k = posF l p := by
  have := posF_le l p
  omega
theorem strsAre (ts : List (Str × Tok)) : StrsAre (strValues ts) (ts.map (·.1)) := by
  induction ts with
  | nil => exact .nil
  | cons p r ih => exact .cons p.1 p.2 ih
theorem lay_mem {l : List Str} {r y : Str} (h : y ∈ layF l r) : y = r ∨ y ∈ l := by
  unfold layF at h
  rcases List.mem_append.mp h with h | h
  · exact .inr (List.mem_of_mem_take h)
  · rcases List.mem_cons.mp h with h | h
    · exact .inl h
    · exact .inr (List.mem_of_mem_drop h)
theorem laid_mem {rs : List Str} {y : Str} (h : y ∈ laidF rs) : y ∈ rs := by
  have key : ∀ (rs acc : List Str), y ∈ rs.foldl layF acc → y ∈ acc ∨ y ∈ rs := by
    intro rs
    induction rs with
    | nil => intro acc h; exact .inl h
    | cons a r ih =>
      intro acc h
      rcases ih _ h with h | h
      · rcases lay_mem h with rfl | h
        · exact .inr (.head _)
        · exact .inl h
      · exact .inr (.tail _ h)
  rcases key rs [] h with h | h
  · cases h
  · exact h
theorem ins_strs {ts : List (Str × Tok)} {k : Nat} {r : Str} {u : Tok} (hk : k ≤ ts.length) : kl_ins (strValues ts).toArray.toList (k : Int) (.str r u) = strValues (ts.take k ++ (r, u) :: ts.drop k) := by
  unfold kl_ins
  have e : (if (k : Int) < 0 then ((k : Int) + (((strValues ts).toArray.toList.length : Nat) : Int)).toNat else min (k : Int).toNat (strValues ts).toArray.toList.length) = k := by
    rw [if_neg (by omega), Int.toNat_natCast]
    have : (strValues ts).toArray.toList.length = ts.length := by simp [strValues]
    rw [this]; omega
  rw [e]
  simp [strValues, List.map_take, List.map_drop]
theorem ins_map {ts : List (Str × Tok)} {k : Nat} {r : Str} {u : Tok} (hk : k = posF (ts.map (·.1)) (portF r)) : (ts.take k ++ (r, u) :: ts.drop k).map (·.1) = layF (ts.map (·.1)) r := by
  subst hk
  unfold layF
  simp [List.map_take, List.map_drop]
theorem laid_step {rs : List Str} {i : Nat} {r : Str} (h : rs[i]? = some r) : laidF (rs.take (i + 1)) = layF (laidF (rs.take i)) r := by
  unfold laidF
  rw [List.take_succ, h, List.foldl_append]; rfl
section
variable {prog : Program} {w : World} {A : Around} {E : Value → Shared → Prop} {s : Shared} {Q : Value → Shared → Prop}
theorem len_strs {D : Addr} {ts : List (Str × Tok)} (hl : s.heap.IsList D (strValues ts).toArray) (hn : ts.length ≤ 1000) (h : ∀ t tk, Q (.int ts.length t) { s with toks := tk }) : wpAny (model prog w) A (call (.builtin "len") [.ref D]) Q E s := by
  refine PyProof.Rows.len_list hl (by simp [strValues]; omega) ?_
  have := h (s.toks + 1) (s.toks + 1 + 1)
  simpa [strValues] using this
theorem item_strs {D : Addr} {ts : List (Str × Tok)} {value slice : Expr} {k : Nat} {t : Tok} (hl : s.heap.IsList D (strValues ts).toArray) (hn : ts.length ≤ 1000) (hk : k < ts.length) (h : ∀ x t', (ts.map (·.1))[k]? = some x → Q (.str x t') s)
    (hs : subscripted slice false (.ref D) (.int k t) = operate [.ref D, .int k t] (getItem (.ref D) (.int k t)) := by rfl) : wpAny (model prog w) A (subscriptTail value slice (.ref D) (.int k t)) Q E s := by
  refine KTb.item_list hl (strsAre ts) (by omega) (by simpa using hk) (by omega) (fun t' hi => ?_) hs
  have hk2 : k < (ts.map (·.1)).length := by simpa using hk
  have e : (ts.map (·.1)).getD (k : Int).toNat Str.empty = (ts.map (·.1))[k] := by
    rw [Int.toNat_natCast, List.getD_eq_getElem?_getD, List.getElem?_eq_getElem hk2]; rfl
  rw [e]
  exact h _ t' (List.getElem?_eq_getElem hk2)
end
noncomputable def laid_spec.Stm (w : World) (A : Around) (E : Value → Shared → Prop) (s : Shared) (base : Heap) (mg : Str → Option Value) (mb : Str → Option Value) (mean : ExcName → Option Value) (Q : Value → Shared → Prop) (outer : List Env) (l : Addr) (rs : List (Str × Tok)) : Prop := ∀  (B : Below A base outer s.heap) (X : (Mine.KC w.params).In s.heap) (T : Top EMP LS mean mg mb s.heap) (hh : A.handled = none) (hd : A.depth + 3 < recursionLimit) (hl : s.heap.IsList l (strValues rs).toArray) (hn : rs.length ≤ 100) (hr : ∀ r ∈ rs.map (·.1), Asc r ∧ r.length ≤ 500 ∧ ∃ n, parseF r = .ok n) (ret : ∀ D ts z h' tk, Kp s.heap h' → ts.map (·.1) = laidF (rs.map (·.1)) → h'.get? D = some (lobj (strValues ts) z) → s.heap.get? D = none → Q (.ref D) { s with heap := h', toks := tk }), wpAny (model PROG w) A (call (.ref 178) [.ref l]) Q E s
noncomputable def laid_spec.cst : (World) × (Around) × (Value → Shared → Prop) × (Shared) × (Heap) × (Str → Option Value) × (Str → Option Value) × (ExcName → Option Value) × (Value → Shared → Prop) × (List Env) × (Addr) × (List (Str × Tok)) := eps (aWorld 0, {}, fun _ _ => True, {}, {}, fun _ => none, fun _ => none, fun _ => none, fun _ _ => True, [], 0, []) (fun q => laid_spec.Stm q.1 q.2.1 q.2.2.1 q.2.2.2.1 q.2.2.2.2.1 q.2.2.2.2.2.1 q.2.2.2.2.2.2.1 q.2.2.2.2.2.2.2.1 q.2.2.2.2.2.2.2.2.1 q.2.2.2.2.2.2.2.2.2.1 q.2.2.2.2.2.2.2.2.2.2.1 q.2.2.2.2.2.2.2.2.2.2.2)
namespace laid_spec
noncomputable def A : Around := cst.2.1
noncomputable def E : Value → Shared → Prop := cst.2.2.1
noncomputable def s : Shared := cst.2.2.2.1
noncomputable def l : Addr := cst.2.2.2.2.2.2.2.2.2.2.1
noncomputable def rs : List (Str × Tok) := cst.2.2.2.2.2.2.2.2.2.2.2
noncomputable def L' : Addr := s.heap.objs.size
theorem it : Stm cst.1 A E s cst.2.2.2.2.1 cst.2.2.2.2.2.1 cst.2.2.2.2.2.2.1 cst.2.2.2.2.2.2.2.1 cst.2.2.2.2.2.2.2.2.1 cst.2.2.2.2.2.2.2.2.2.1 l rs := by
  intro  B X T hh hd hl hn hr ret
  have hfill : (fun (_ : OpenLaw) (_ : Params → Frag) => True) PySem.Challenge.rw_nq0040_01 Mine.KC := by (k_fill; trivial)
  clear hfill
  w_top off
  k_dflt (refine' enterP0 (L := L') rfl (binds := [(Str.ofString "replies", .ref l)]) ?k1 ?k2 ?k3 ?k6 ?k7 ?k8 ?k9 ?kB ?_ ?c2 ?c3 ?c4 ?c5; (case k1 => assumption); (case k2 => assumption); (case k3 => assumption); (case k6 => k_is); (case k7 => k_is); (case k8 => omega); (case k9 => first | exact BindsTo.of_eq rfl | exact binds_K (by assumption) rfl (by k_is) rfl rfl rfl); (case c5 => decide); (case kB => exact locs rfl); (case c2 => exact rfl); (case c3 => exact rfl); (case c4 => exact rfl); k_whole)
  intro h' F' N'
  try dsimp only
  k_fold
  refine wpAny_execs_cons ?_
  repeat' (first | ((with_reducible show wpAny _ _ (exec (PySem.Stmt.While (PySem.Expr.BoolOp _ _ _) (_ :: _) [] _) _) _ _ _); refine Hold.it ?_) | ((with_reducible show wpAny _ _ (subscriptTail _ _ _ _) _ _ _); refine' item_strs ?ia ?ib ?ic ?_ ?id; (case id => rfl); (case ia => assumption); (case ib => omega); (case ic => omega); intro _ _ _) | ((with_reducible show wpAny _ _ (call (Value.builtin "len") _ _) _ _ _); refine len_strs (by assumption) (by omega) ?_; intro _ _) | ((with_reducible show wpAny _ _ (call (Value.builtin "list.insert") _ _) _ _ _); refine Hold.it ?_) | walk_at "m1")
  rename_i D _ _ h1 F1 N1
  refine For_invVF F1 rfl rfl ?_
  repeat' (first | ((with_reducible show wpAny _ _ (exec (PySem.Stmt.While (PySem.Expr.BoolOp _ _ _) (_ :: _) [] _) _) _ _ _); refine Hold.it ?_) | ((with_reducible show wpAny _ _ (subscriptTail _ _ _ _) _ _ _); refine' item_strs ?ia ?ib ?ic ?_ ?id; (case id => rfl); (case ia => assumption); (case ib => omega); (case ic => omega); intro _ _ _) | ((with_reducible show wpAny _ _ (call (Value.builtin "len") _ _) _ _ _); refine len_strs (by assumption) (by omega) ?_; intro _ _) | ((with_reducible show wpAny _ _ (call (Value.builtin "list.insert") _ _) _ _ _); refine Hold.it ?_) | walk_at "m1")
  have hDs : D ≠ h1.objs.size := Nat.ne_of_lt (Heap.lt_size (N1.get (.head _)))
  have hDl : D ≠ l := fun e => by
    obtain ⟨o, ho, _⟩ := hl
    have := N1.fresh (.head _)
    rw [e, ho] at this; cases this
  refine forL (L := L') rfl (fun i m news => ∃ ts z o1 o2 o3, m = laidMap l D o1 o2 o3 ∧ news = [(D, lobj (strValues ts) z)] ∧ ts.map (·.1) = laidF ((rs.map (·.1)).take i) ∧ ts.length = i) hh (hl.at fun o e => F1.keep l o e) ?_ F1 N1 ⟨[], 0, none, none, none, ?_, rfl, rfl, rfl⟩ ?_ ?_ ?_
  · intro e
    obtain ⟨o, ho, _⟩ := hl
    rw [e, kts_self F1] at ho; cases ho
  · (funext zz; by_cases hz0 : zz = PySem.Str.ofString "k"; (focus (subst hz0; rfl)); by_cases hz1 : zz = PySem.Str.ofString "port"; (focus (subst hz1; rfl)); by_cases hz2 : zz = PySem.Str.ofString "reply"; (focus (subst hz2; rfl)); by_cases hz3 : zz = PySem.Str.ofString "laid"; (focus (subst hz3; rfl)); (try dsimp only); (try simp only [if_neg hz0]); (try simp only [if_neg hz1]); (try simp only [if_neg hz2]); (try simp only [if_neg hz3]); (try rfl))
  · rintro _ _ _ ⟨ts, z, o1, o2, o3, _, rfl, _⟩
    exact NoItB.of (NoIt.cons rfl NoIt.nil)
  · rintro i v m₁ news₁ h3 tk3 own hv ⟨ts, z, o1, o2, o3, rfl, rfl, hts, htl⟩ F3 N3 ho
    obtain ⟨r, u, hp, rfl⟩ := strValues_get hv
    dsimp only [List.cons_append, List.nil_append] at N3
    obtain ⟨hra, hrl, n, hrn⟩ := hr r (List.mem_of_getElem? hp)
    clear F1 N1
    repeat' (first | ((with_reducible show wpAny _ _ (exec (PySem.Stmt.While (PySem.Expr.BoolOp _ _ _) (_ :: _) [] _) _) _ _ _); refine Hold.it ?_) | ((with_reducible show wpAny _ _ (subscriptTail _ _ _ _) _ _ _); refine' item_strs ?ia ?ib ?ic ?_ ?id; (case id => rfl); (case ia => assumption); (case ib => omega); (case ic => omega); intro _ _ _) | ((with_reducible show wpAny _ _ (call (Value.builtin "len") _ _) _ _ _); refine len_strs (by assumption) (by omega) ?_; intro _ _) | ((with_reducible show wpAny _ _ (call (Value.builtin "list.insert") _ _) _ _ _); refine Hold.it ?_) | walk_at "m1")
    refine read_spec (B.push F3) (X.keeps F3.keep) (T.keeps F3.keep) hh ?_ hrl hra ?_
    · show A.depth + 1 + 2 < recursionLimit; omega
    intro v2 h4 tk4 k4 hv2
    dsimp only at hv2 ⊢
    rw [read_law hra hrl, hrn] at hv2
    obtain ⟨a2, tn2, rfl, hf2, hg2⟩ := hv2
    have F4 := F3.keeps k4
    have N4 := news_add F3 hf2 hg2 (N3.grown k4)
    clear F3 N3
    repeat' (first | ((with_reducible show wpAny _ _ (exec (PySem.Stmt.While (PySem.Expr.BoolOp _ _ _) (_ :: _) [] _) _) _ _ _); refine Hold.it ?_) | ((with_reducible show wpAny _ _ (subscriptTail _ _ _ _) _ _ _); refine' item_strs ?ia ?ib ?ic ?_ ?id; (case id => rfl); (case ia => assumption); (case ib => omega); (case ic => omega); intro _ _ _) | ((with_reducible show wpAny _ _ (call (Value.builtin "len") _ _) _ _ _); refine len_strs (by assumption) (by omega) ?_; intro _ _) | ((with_reducible show wpAny _ _ (call (Value.builtin "list.insert") _ _) _ _ _); refine Hold.it ?_) | walk_at "m1")
    refine ⟨?_⟩
    rename_i h5 F5 N5
    have hp' := portF_of hrn
    have htsH : Hold (ts.map (·.1) = laidF ((rs.map (·.1)).take i)) := ⟨hts⟩
    have offD : ∀ p ∈ own, p.1 ≠ D := fun p hp => by
      rcases ho p hp with e | e
      · rw [e]; exact Ne.symm hDs
      · rw [e]; exact Ne.symm hDl
    have hall : ∀ y ∈ ts.map (·.1), Asc y ∧ y.length ≤ 500 ∧ ∃ n, parseF y = .ok n := fun y hy => by
      rw [hts] at hy
      exact hr y (List.mem_of_mem_take (laid_mem hy))
    refine' wpAny_mono (E := fun _ _ => False) (While_inv (L := L') (n₀ := ts.length) (fun q m news => ∃ (k : Nat) (tk : Tok), q = ts.length - k ∧ k ≤ posF (ts.map (·.1)) n ∧ m = laidMap l D (some (.str r u)) (some (.int n tn2)) (some (.int k tk)) ∧ news = (D, lobj (strValues ts) z) :: own) F5 (fun p hp => N5 p (.tail _ hp)) ⟨0, _, rfl, Nat.zero_le _, ?mp, rfl⟩ ?tu (fun _ _ h => h.elim)) (fun _ _ q => q) fun _ _ e => e.elim
    case mp => (funext zz; by_cases hz0 : zz = PySem.Str.ofString "k"; (focus (subst hz0; rfl)); by_cases hz1 : zz = PySem.Str.ofString "port"; (focus (subst hz1; rfl)); by_cases hz2 : zz = PySem.Str.ofString "reply"; (focus (subst hz2; rfl)); by_cases hz3 : zz = PySem.Str.ofString "laid"; (focus (subst hz3; rfl)); (try dsimp only); (try simp only [if_neg hz0]); (try simp only [if_neg hz1]); (try simp only [if_neg hz2]); (try simp only [if_neg hz3]); (try rfl))
    case tu =>
      rintro q m₁ news₁ h6 tk6 F6 N6 ⟨k, tkk, rfl, hk, rfl, rfl⟩
      have hlk : h6.IsList D (strValues ts).toArray := ⟨_, N6.get (.head _), rfl, _, rfl⟩
      clear F5 N5
      have ht100 : ts.length ≤ 100 := by have := (List.getElem?_eq_some_iff.mp hp).1; simp at this; omega
      repeat' (first | ((with_reducible show wpAny _ _ (exec (PySem.Stmt.While (PySem.Expr.BoolOp _ _ _) (_ :: _) [] _) _) _ _ _); refine Hold.it ?_) | ((with_reducible show wpAny _ _ (subscriptTail _ _ _ _) _ _ _); refine' item_strs ?ia ?ib ?ic ?_ ?id; (case id => rfl); (case ia => assumption); (case ib => omega); (case ic => omega); intro _ _ _) | ((with_reducible show wpAny _ _ (call (Value.builtin "len") _ _) _ _ _); refine len_strs (by assumption) (by omega) ?_; intro _ _) | ((with_reducible show wpAny _ _ (call (Value.builtin "list.insert") _ _) _ _ _); refine Hold.it ?_) | walk_at "m1")
      · rename_i y ty hy
        (try rw [Int.toNat_natCast] at hy)
        obtain ⟨hya, hyl, ny, hyn⟩ := hall y (List.mem_of_getElem? hy)
        refine read_spec (B.push F6) (X.keeps F6.keep) (T.keeps F6.keep) hh ?_ hyl hya ?_
        · show A.depth + 1 + 2 < recursionLimit; omega
        intro v7 h7 tk7 k7 hv7
        dsimp only at hv7 ⊢
        rw [read_law hya hyl, hyn] at hv7
        obtain ⟨a7, tn7, rfl, hf7, hg7⟩ := hv7
        have F7 := F6.keeps k7
        have N7 := news_add F6 hf7 hg7 (N6.grown k7)
        have hpy := portF_of hyn
        clear F6 N6 hlk
        repeat' (first | ((with_reducible show wpAny _ _ (exec (PySem.Stmt.While (PySem.Expr.BoolOp _ _ _) (_ :: _) [] _) _) _ _ _); refine Hold.it ?_) | ((with_reducible show wpAny _ _ (subscriptTail _ _ _ _) _ _ _); refine' item_strs ?ia ?ib ?ic ?_ ?id; (case id => rfl); (case ia => assumption); (case ib => omega); (case ic => omega); intro _ _ _) | ((with_reducible show wpAny _ _ (call (Value.builtin "len") _ _) _ _ _); refine len_strs (by assumption) (by omega) ?_; intro _ _) | ((with_reducible show wpAny _ _ (call (Value.builtin "list.insert") _ _) _ _ _); refine Hold.it ?_) | walk_at "m1")
        · rename_i F8 N8
          refine' WhileStep.intro (news₂ := (D, lobj (strValues ts) z) :: own) F8 (fun p hp => N8 p (.tail _ hp)) ?wa ⟨k + 1, _, rfl, posF_go hk hy (by omega), ?wb, rfl⟩
          case wa => omega
          case wb => (funext zz; by_cases hz0 : zz = PySem.Str.ofString "k"; (focus (subst hz0; rfl)); by_cases hz1 : zz = PySem.Str.ofString "port"; (focus (subst hz1; rfl)); by_cases hz2 : zz = PySem.Str.ofString "reply"; (focus (subst hz2; rfl)); by_cases hz3 : zz = PySem.Str.ofString "laid"; (focus (subst hz3; rfl)); (try dsimp only); (try simp only [if_neg hz0]); (try simp only [if_neg hz1]); (try simp only [if_neg hz2]); (try simp only [if_neg hz3]); (try rfl))
        · have hend : k = posF (ts.map (·.1)) n := posF_stop hk hy (by omega)
          have N8 : News s.heap L' h7 ((D, lobj (strValues ts) z) :: own) := fun p hp => N7 p (.tail _ hp)
          refine ⟨?_⟩
          have hkl : k ≤ ts.length := by have := posF_le (ts.map (·.1)) n; simp at this; omega
          refine kl_insert F7 N8 (by unfold Builtin.List.listFitsIndex; simp; omega) (ins_strs hkl) (Upd.head (d := D) offD) (by simp [strValues]; rw [sizeLine_eq]; omega) ?_
          intro h9 F9 N9
          repeat' (first | ((with_reducible show wpAny _ _ (exec (PySem.Stmt.While (PySem.Expr.BoolOp _ _ _) (_ :: _) [] _) _) _ _ _); refine Hold.it ?_) | ((with_reducible show wpAny _ _ (subscriptTail _ _ _ _) _ _ _); refine' item_strs ?ia ?ib ?ic ?_ ?id; (case id => rfl); (case ia => assumption); (case ib => omega); (case ic => omega); intro _ _ _) | ((with_reducible show wpAny _ _ (call (Value.builtin "len") _ _) _ _ _); refine len_strs (by assumption) (by omega) ?_; intro _ _) | ((with_reducible show wpAny _ _ (call (Value.builtin "list.insert") _ _) _ _ _); refine Hold.it ?_) | walk_at "m1")
          refine' TurnEnd.go [(D, lobj (strValues (ts.take k ++ (r, u) :: ts.drop k)) (z + 1))] F9 N9 (fun p hp => hp) ⟨ts.take k ++ (r, u) :: ts.drop k, z + 1, some (.str r u), some (.int n tn2), some (.int k tkk), ?ff, rfl, ?fg, ?fh⟩
          case ff => (funext zz; by_cases hz0 : zz = PySem.Str.ofString "k"; (focus (subst hz0; rfl)); by_cases hz1 : zz = PySem.Str.ofString "port"; (focus (subst hz1; rfl)); by_cases hz2 : zz = PySem.Str.ofString "reply"; (focus (subst hz2; rfl)); by_cases hz3 : zz = PySem.Str.ofString "laid"; (focus (subst hz3; rfl)); (try dsimp only); (try simp only [if_neg hz0]); (try simp only [if_neg hz1]); (try simp only [if_neg hz2]); (try simp only [if_neg hz3]); (try rfl))
          case fg => rw [ins_map (by rw [hp']; exact hend), htsH.it, laid_step hp]
          case fh => simp; omega
      · have hend : k = posF (ts.map (·.1)) n := posF_end hk (by simp; omega)
        refine ⟨?_⟩
        have hkl : k ≤ ts.length := by have := posF_le (ts.map (·.1)) n; simp at this; omega
        refine kl_insert F6 N6 (by unfold Builtin.List.listFitsIndex; simp; omega) (ins_strs hkl) (Upd.head (d := D) offD) (by simp [strValues]; rw [sizeLine_eq]; omega) ?_
        intro h9 F9 N9
        repeat' (first | ((with_reducible show wpAny _ _ (exec (PySem.Stmt.While (PySem.Expr.BoolOp _ _ _) (_ :: _) [] _) _) _ _ _); refine Hold.it ?_) | ((with_reducible show wpAny _ _ (subscriptTail _ _ _ _) _ _ _); refine' item_strs ?ia ?ib ?ic ?_ ?id; (case id => rfl); (case ia => assumption); (case ib => omega); (case ic => omega); intro _ _ _) | ((with_reducible show wpAny _ _ (call (Value.builtin "len") _ _) _ _ _); refine len_strs (by assumption) (by omega) ?_; intro _ _) | ((with_reducible show wpAny _ _ (call (Value.builtin "list.insert") _ _) _ _ _); refine Hold.it ?_) | walk_at "m1")
        refine' TurnEnd.go [(D, lobj (strValues (ts.take k ++ (r, u) :: ts.drop k)) (z + 1))] F9 N9 (fun p hp => hp) ⟨ts.take k ++ (r, u) :: ts.drop k, z + 1, some (.str r u), some (.int n tn2), some (.int k tkk), ?ff, rfl, ?fg, ?fh⟩
        case ff => (funext zz; by_cases hz0 : zz = PySem.Str.ofString "k"; (focus (subst hz0; rfl)); by_cases hz1 : zz = PySem.Str.ofString "port"; (focus (subst hz1; rfl)); by_cases hz2 : zz = PySem.Str.ofString "reply"; (focus (subst hz2; rfl)); by_cases hz3 : zz = PySem.Str.ofString "laid"; (focus (subst hz3; rfl)); (try dsimp only); (try simp only [if_neg hz0]); (try simp only [if_neg hz1]); (try simp only [if_neg hz2]); (try simp only [if_neg hz3]); (try rfl))
        case fg => rw [ins_map (by rw [hp']; exact hend), htsH.it, laid_step hp]
        case fh => simp; omega
  · rintro m₁ news₁ h3 tk3 ⟨ts, z, o1, o2, o3, rfl, rfl, hts, htl⟩ F3 N3
    clear F1 N1
    repeat' (first | ((with_reducible show wpAny _ _ (exec (PySem.Stmt.While (PySem.Expr.BoolOp _ _ _) (_ :: _) [] _) _) _ _ _); refine Hold.it ?_) | ((with_reducible show wpAny _ _ (subscriptTail _ _ _ _) _ _ _); refine' item_strs ?ia ?ib ?ic ?_ ?id; (case id => rfl); (case ia => assumption); (case ib => omega); (case ic => omega); intro _ _ _) | ((with_reducible show wpAny _ _ (call (Value.builtin "len") _ _) _ _ _); refine len_strs (by assumption) (by omega) ?_; intro _ _) | ((with_reducible show wpAny _ _ (call (Value.builtin "list.insert") _ _) _ _ _); refine Hold.it ?_) | walk_at "m1")
    dsimp only
    rw [List.take_of_length_le (by simp [strValues])] at hts
    exact ret D ts z _ _ F3.keep hts (N3.get (.head _)) (N3.fresh (.head _))
end laid_spec
theorem laid_spec {w : World} {A : Around} {E : Value → Shared → Prop} {s : Shared} {base : Heap} {mg : Str → Option Value} {mb : Str → Option Value} {mean : ExcName → Option Value} {Q : Value → Shared → Prop} {outer : List Env} {l : Addr} {rs : List (Str × Tok)} 
   (B : Below A base outer s.heap) (X : (Mine.KC w.params).In s.heap) (T : Top EMP LS mean mg mb s.heap) (hh : A.handled = none) (hd : A.depth + 3 < recursionLimit) (hl : s.heap.IsList l (strValues rs).toArray) (hn : rs.length ≤ 100) (hr : ∀ r ∈ rs.map (·.1), Asc r ∧ r.length ≤ 500 ∧ ∃ n, parseF r = .ok n) (ret : ∀ D ts z h' tk, Kp s.heap h' → ts.map (·.1) = laidF (rs.map (·.1)) → h'.get? D = some (lobj (strValues ts) z) → s.heap.get? D = none → Q (.ref D) { s with heap := h', toks := tk }) : wpAny (model PROG w) A (call (.ref 178) [.ref l]) Q E s :=
  (eps_at (G := fun q => laid_spec.Stm q.1 q.2.1 q.2.2.1 q.2.2.2.1 q.2.2.2.2.1 q.2.2.2.2.2.1 q.2.2.2.2.2.2.1 q.2.2.2.2.2.2.2.1 q.2.2.2.2.2.2.2.2.1 q.2.2.2.2.2.2.2.2.2.1 q.2.2.2.2.2.2.2.2.2.2.1 q.2.2.2.2.2.2.2.2.2.2.2) (c := laid_spec.cst) rfl laid_spec.it (w, A, E, s, base, mg, mb, mean, Q, outer, l, rs) : laid_spec.Stm w A E s base mg mb mean Q outer l rs)  B X T hh hd hl hn hr ret
end Mine
end

section
set_option linter.all false
namespace Mine
section
variable {prog : Program} {w : World} {A : Around} {E : Value → Shared → Prop} {s' : Shared} {base g h : Heap} {outer : List Env} {L a e : Addr} {m : Str → Option Value} {name : Str} {scope : Scope} {cd : Value} {Q : Flow → Shared → Prop} {news : List (Addr × Obj)} {hs : List ExceptHandler}
theorem look_new {cls : String} (K : Below A base outer g) (hx : Heap.NewExc h s'.heap e cls) (F : Fr g L h m) (N : News g L h news) (hk : scope.kind = .function)
    (k : ∀ G' h', RaisedSN base G' (envOf name scope L a cd :: outer) e (.type cls) news h' → Fr g L G' m → G'.UpToSlots h' → wpAny (model prog w) (A.deeper (envOf name scope L a cd)) (handleBy (.ref e) (envOf name scope L a cd) hs) Q E { s' with heap := h' }) :
    wpAny (model prog w) (A.deeper (envOf name scope L a cd)) (noteFrame (.ref e) (envOf name scope L a cd))
      (fun _ s₂ => wpAny (model prog w) (A.deeper (envOf name scope L a cd)) (setFlight (.ref e) none) (fun _ s₃ =>
        wpAny (model prog w) (A.deeper (envOf name scope L a cd)) (handleBy (.ref e) (envOf name scope L a cd) hs) Q E s₃) E s₂) E s' := by
  have K' := K.push (name := name) (a := a) (cd := cd) F hk
  have hin : ∀ env ∈ (envOf name scope L a cd :: outer), ∀ b, env.frame = some b → b ∈ (envOf name scope L a cd :: outer).filterMap (·.frame) := fun env he b hb => List.mem_filterMap.mpr ⟨env, he, hb⟩
  have st : base.StaysIn (hideAll h ((envOf name scope L a cd :: outer).filterMap (·.frame))) := fun b o q => hideAll_get _ (K'.stays b o q) fun hm => by
    rw [(K'.frames.mem hm).1] at q; cases q
  have off : ∀ q ∈ news, q.1 ∉ (envOf name scope L a cd :: outer).filterMap (·.frame) := fun q hq hm => by
    rcases kts_mem hm with z | z
    · exact (N q hq).2.1 z
    · obtain ⟨_, o, ho', _⟩ := K.frames.mem z
      rw [(N q hq).2.2] at ho'; cases ho'
  obtain ⟨ob, tp, he, hcls, hd⟩ := hx.there
  have hen : (hideAll h ((envOf name scope L a cd :: outer).filterMap (·.frame))).get? e = none := by
    cases q : (hideAll h ((envOf name scope L a cd :: outer).filterMap (·.frame))).get? e with
    | none => rfl
    | some o => have := of_hideAll _ q; rw [hx.new] at this; cases this
  have ng : ∀ b o, g.get? b = some o → b ∉ news.map (·.1) := fun b o eb hm => by
    obtain ⟨q, hq, rfl⟩ := List.mem_map.mp hm
    rw [(N q hq).2.2] at eb; cases eb
  have FG : Fr g L (hideAll h (news.map (·.1))) m := by
    obtain ⟨oL, es, ep, hL, r⟩ := F.ns
    refine ⟨⟨oL, es, ep, hideAll_get _ hL fun hm => ?_, r⟩, fun b o eb => hideAll_get _ (F.keep b o eb) (ng b o eb), F.above⟩
    obtain ⟨q, hq, z⟩ := List.mem_map.mp hm
    exact (N q hq).2.1 z
  have hfr := Around.frames_deeper (env := envOf name scope L a cd) K.stack
  unfold noteFrame
  simp only
  refine wpAny_bind (wpAny_field he hd (show (#[tp, Value.none, Value.none, Value.none, Value.bool false, Value.none] : Array Value)[1]? = some Value.none from rfl) ?_)
  rw [if_neg (by decide)]
  refine wpAny_entryW hfr ((funFrames_hide K'.frames hin).of_keeps fun b o hb _ => ⟨o, hx.keeps b o hb, rfl⟩) rfl he (fun b o hb => hx.keeps b o (of_hideAll _ hb)) hen hd (by simp) (by rfl) fun h₄ hN => ?_
  obtain ⟨k1, k2, k3, k4⟩ := hN
  refine wpAny_landsW (L := L) ⟨k1, hen, k2, k3⟩ fun h₅ hfl hsm₅ => ?_
  refine k (hideAll h (news.map (·.1))) h₅ ⟨_, tp, st, fun b o eb nb => hideAll_get _ (of_hideAll _ eb) nb, fun q hq => ⟨hideAll_get _ (N q hq).1 (off q hq), hideAll_none _ (List.mem_map_of_mem hq), fresh_of_stays K.stays (N q hq).2.2⟩, by rw [← hcls]; exact hfl⟩ FG ?_
  intro b o eb hnf
  have x4 : Heap.UpToSlots s'.heap h₄ := k4
  exact ((Heap.UpToSlots.of_keeps hx.keeps).trans (x4.trans hsm₅)) b o (of_hideAll _ eb) hnf
end
end Mine
end

section
set_option linter.all false
namespace Mine
open SeqAt MeetsSeq MeetsSeq2 MeetsSeq3 SeqRoads2
open AutoSeq1 (wpAny_loadPart')
theorem rem_loop (l : Addr) (items : Array Value) (n : Nat) (x : Value) (e : Value → Bool) (j : Nat) (hj : j < items.size) (hit : e items[j] = true) (hs1 : items.size ≤ sizeLine) (k : Nat) :
    ∀ i : Nat, j - i = k → i ≤ j → (∀ m (hm : m < items.size), i ≤ m → m < j → e items[m] = false) → Meets (Builtin.«list.remove.loop» ⟨[.ref l, x, rawInt i], []⟩)
      (fun A R s => s.heap.get? l = some { cls := .type "list", dict := none, data := .seq items n, slots := #[] } ∧ (∀ y, y ∈ items → EqAt A.in1 s y x (e y)) ∧ R (.ok (.ret .none)) { s with heap := s.heap.update l (Obj.mapSeq fun xs => xs.eraseIdxIfInBounds j) }) := by
  induction k with
  | zero =>
    intro i hk hij hno prog w A R s h
    obtain ⟨hp, g, d, tk, os⟩ := s; obtain ⟨hl, he, h⟩ := h
    have hij' : i = j := by omega
    subst hij'
    wp_walk using wpAny_loadPart' hl
    have hi : items[((i : Nat) : Int).toNat]? = some items[i] := by simp [hj]
    rw [hi]
    refine wpAny_bind (he _ (Array.getElem_mem hj) prog w _ _ ?_)
    rw [hit]
    have hz' : (items.eraseIdxIfInBounds i).size ≤ sizeLine + 1 := Nat.le_trans (size_erased items _) (Nat.le_succ_of_le hs1)
    wp_walk using (wpAny_updateSeq hl rfl (hz := hs1) (_hz' := hz')), wpAny_loadPart' hl
    simpa using h
  | succ k ih =>
    intro i hk hij hno prog w A R s h
    obtain ⟨hp, g, d, tk, os⟩ := s; obtain ⟨hl, he, h⟩ := h
    have hlt : i < items.size := by omega
    wp_walk using wpAny_loadPart' hl
    have hi : items[((i : Nat) : Int).toNat]? = some items[i] := by simp [hlt]
    have hc : ((i : Int) + 1) = ((i + 1 : Nat) : Int) := by push_cast; rfl
    rw [hi]
    refine wpAny_bind (he _ (Array.getElem_mem hlt) prog w _ _ ?_)
    rw [hno i hlt (Nat.le_refl _) (by omega)]
    wp_walk
    rw [hc]
    exact ⟨plainId_quiet plain_remove_loop _, codeAny_builtin entry_remove_loop (by
      rw [Around.under_plainId plain_remove_loop _]
      exact ih (i + 1) (by omega) (by omega) (fun m hm h1 h2 => hno m hm (by omega) h2) prog w A R _ ⟨hl, he, h⟩)⟩
theorem rem_none (l : Addr) (items : Array Value) (n : Nat) (x : Value) (e : Value → Bool) (hno : ∀ m (hm : m < items.size), e items[m] = false) (k : Nat) :
    ∀ i : Nat, items.size - i = k → Meets (Builtin.«list.remove.loop» ⟨[.ref l, x, rawInt i], []⟩)
      (fun A R s => s.heap.get? l = some { cls := .type "list", dict := none, data := .seq items n, slots := #[] } ∧ (∀ y, y ∈ items → EqAt A.in1 s y x (e y)) ∧ raisesNew "ValueError" A R s) := by
  induction k with
  | zero =>
    intro i hk prog w A R s h
    obtain ⟨hp, g, d, tk, os⟩ := s; obtain ⟨hl, he, h⟩ := h
    wp_walk using wpAny_loadPart' hl
    have hi : items[((i : Nat) : Int).toNat]? = none := by simp; omega
    rw [hi]
    wp_walk
    exact_raiseError plainExc_ValueError h.1 h.2
  | succ k ih =>
    intro i hk prog w A R s h
    obtain ⟨hp, g, d, tk, os⟩ := s; obtain ⟨hl, he, h⟩ := h
    have hlt : i < items.size := by omega
    wp_walk using wpAny_loadPart' hl
    have hi : items[((i : Nat) : Int).toNat]? = some items[i] := by simp [hlt]
    have hc : ((i : Int) + 1) = ((i + 1 : Nat) : Int) := by push_cast; rfl
    rw [hi]
    refine wpAny_bind (he _ (Array.getElem_mem hlt) prog w _ _ ?_)
    rw [hno i hlt]
    wp_walk
    rw [hc]
    exact ⟨plainId_quiet plain_remove_loop _, codeAny_builtin entry_remove_loop (by
      rw [Around.under_plainId plain_remove_loop _]
      exact ih (i + 1) (by omega) prog w A R _ ⟨hl, he, h⟩)⟩
theorem remove_at (l : Addr) (items : Array Value) (n : Nat) (x : Value) (e : Value → Bool) (j : Nat) (hj : j < items.size) (hit : e items[j] = true) (hno : ∀ m (hm : m < items.size), m < j → e items[m] = false) (hs1 : items.size ≤ sizeLine) :
    Meets (Builtin.«list.remove» ⟨[.ref l, x], []⟩)
      (fun A R s => s.heap.get? l = some { cls := .type "list", dict := none, data := .seq items n, slots := #[] } ∧ (∀ y, y ∈ items → EqAt A.in1 s y x (e y)) ∧ R (.ok (.ret .none)) { s with heap := s.heap.update l (Obj.mapSeq fun xs => xs.eraseIdxIfInBounds j) }) := by
  intro prog w A R s h
  obtain ⟨hp, g, d, tk, os⟩ := s; obtain ⟨hl, he, h⟩ := h
  wp_walk using wpAny_loadPart' hl
  exact ⟨plainId_quiet plain_remove_loop _, codeAny_builtin entry_remove_loop (by
    rw [Around.under_plainId plain_remove_loop _]
    exact rem_loop l items n x e j hj hit hs1 _ 0 rfl (Nat.zero_le _) (fun m hm _ h2 => hno m hm h2) prog w A R _ ⟨hl, he, h⟩)⟩
theorem remove_none (l : Addr) (items : Array Value) (n : Nat) (x : Value) (e : Value → Bool) (hno : ∀ m (hm : m < items.size), e items[m] = false) :
    Meets (Builtin.«list.remove» ⟨[.ref l, x], []⟩)
      (fun A R s => s.heap.get? l = some { cls := .type "list", dict := none, data := .seq items n, slots := #[] } ∧ (∀ y, y ∈ items → EqAt A.in1 s y x (e y)) ∧ raisesNew "ValueError" A R s) := by
  intro prog w A R s h
  obtain ⟨hp, g, d, tk, os⟩ := s; obtain ⟨hl, he, h⟩ := h
  wp_walk using wpAny_loadPart' hl
  exact ⟨plainId_quiet plain_remove_loop _, codeAny_builtin entry_remove_loop (by
    rw [Around.under_plainId plain_remove_loop _]
    exact rem_none l items n x e hno _ 0 rfl prog w A R _ ⟨hl, he, h⟩)⟩
end Mine
end

section
set_option linter.all false
namespace Mine
noncomputable def uldF : List Int → List Int → List Int × List Int
  | [], ys => ([], ys)
  | x :: r, ys => if x ∈ ys then uldF r (ys.erase x) else ((x :: (uldF r ys).1), (uldF r ys).2)
noncomputable def missF (ys : List Int) : List Int → List Int → List Int
  | _, [] => []
  | seen, x :: r => if (seen ++ [x]).count x > ys.count x then x :: missF ys (seen ++ [x]) r else missF ys (seen ++ [x]) r
noncomputable def leftF (xs : List Int) : List Int → List Int → List Int
  | _, [] => []
  | seen, y :: r => if (seen ++ [y]).count y > xs.count y then y :: leftF xs (seen ++ [y]) r else leftF xs (seen ++ [y]) r
theorem uld_miss (ys₀ : List Int) : ∀ (rx seen ys : List Int), (∀ z, ys.count z = ys₀.count z - seen.count z) → (uldF rx ys).1 = missF ys₀ seen rx
  | [], _, _, _ => rfl
  | x :: r, seen, ys, h => by
    have hc : (seen ++ [x]).count x = seen.count x + 1 := by simp [List.count_append]
    by_cases hx : x ∈ ys
    · have h1 : 0 < ys.count x := List.count_pos_iff.mpr hx
      have h2 : ¬ (seen ++ [x]).count x > ys₀.count x := by rw [hc]; have := h x; omega
      show (if x ∈ ys then uldF r (ys.erase x) else _).1 = if (seen ++ [x]).count x > ys₀.count x then _ else _
      rw [if_pos hx, if_neg h2]
      refine uld_miss ys₀ r (seen ++ [x]) (ys.erase x) fun z => ?_
      by_cases hz : z = x
      · subst hz
        rw [List.count_erase_self, hc, h z]; omega
      · rw [List.count_erase_of_ne hz, h z, List.count_append]
        simp [List.count_cons, Ne.symm hz]
    · have h1 : ys.count x = 0 := List.count_eq_zero.mpr hx
      have h2 : (seen ++ [x]).count x > ys₀.count x := by rw [hc]; have := h x; omega
      show (if x ∈ ys then _ else ((x :: (uldF r ys).1), (uldF r ys).2)).1 = if (seen ++ [x]).count x > ys₀.count x then _ else _
      rw [if_neg hx, if_pos h2]
      show x :: (uldF r ys).1 = _
      congr 1
      refine uld_miss ys₀ r (seen ++ [x]) ys fun z => ?_
      by_cases hz : z = x
      · subst hz
        rw [hc, h z]; have := h z; omega
      · rw [h z, List.count_append]
        simp [List.count_cons, Ne.symm hz]
noncomputable def dropF (c : Int → Nat) : List Int → List Int
  | [] => []
  | y :: r => if 0 < c y then dropF (fun z => if z = y then c z - 1 else c z) r else y :: dropF c r
theorem drop_zero : ∀ (ys : List Int) (c : Int → Nat), (∀ y ∈ ys, c y = 0) → dropF c ys = ys
  | [], _, _ => rfl
  | y :: r, c, h => by
    show (if 0 < c y then _ else y :: dropF c r) = _
    rw [if_neg (by rw [h y (List.mem_cons_self ..)]; omega), drop_zero r c fun z hz => h z (List.mem_cons_of_mem _ hz)]
theorem drop_congr : ∀ (ys : List Int) (c d : Int → Nat), (∀ y ∈ ys, c y = d y) → dropF c ys = dropF d ys
  | [], _, _, _ => rfl
  | y :: r, c, d, h => by
    show (if 0 < c y then dropF (fun z => if z = y then c z - 1 else c z) r else y :: dropF c r) = (if 0 < d y then dropF (fun z => if z = y then d z - 1 else d z) r else y :: dropF d r)
    rw [h y (List.mem_cons_self ..)]
    split
    · exact drop_congr r _ _ fun z hz => by rw [h z (List.mem_cons_of_mem _ hz)]
    · rw [drop_congr r c d fun z hz => h z (List.mem_cons_of_mem _ hz)]
theorem drop_erase : ∀ (ys : List Int) (c : Int → Nat) (x : Int), x ∈ ys → dropF (fun z => if z = x then c z + 1 else c z) ys = dropF c (ys.erase x)
  | y :: r, c, x, hx => by
    by_cases hy : y = x
    · subst hy
      rw [List.erase_cons_head]
      show (if 0 < (if y = y then c y + 1 else c y) then dropF (fun z => if z = y then (if z = y then c z + 1 else c z) - 1 else (if z = y then c z + 1 else c z)) r else _) = dropF c r
      rw [if_pos (by rw [if_pos rfl]; omega)]
      exact drop_congr r _ _ fun z _ => by by_cases hz : z = y <;> simp [hz]
    · have hxr : x ∈ r := by
        rcases List.mem_cons.mp hx with h | h
        · exact absurd h.symm hy
        · exact h
      rw [List.erase_cons_tail (by simpa using hy)]
      show (if 0 < (if y = x then c y + 1 else c y) then dropF (fun z => if z = y then (if z = x then c z + 1 else c z) - 1 else (if z = x then c z + 1 else c z)) r else y :: dropF (fun z => if z = x then c z + 1 else c z) r) =
        (if 0 < c y then dropF (fun z => if z = y then c z - 1 else c z) (r.erase x) else y :: dropF c (r.erase x))
      rw [if_neg hy]
      split
      · rw [← drop_erase r _ x hxr]
        exact drop_congr r _ _ fun z _ => by
          by_cases hz : z = y
          · subst hz; simp [hy]
          · simp [hz]
      · rw [drop_erase r c x hxr]
theorem uld_left : ∀ (rx ys : List Int), (uldF rx ys).2 = dropF (fun z => rx.count z) ys
  | [], ys => (drop_zero ys _ fun _ _ => rfl).symm
  | x :: r, ys => by
    by_cases hx : x ∈ ys
    · show (if x ∈ ys then uldF r (ys.erase x) else _).2 = _
      rw [if_pos hx, uld_left r (ys.erase x), ← drop_erase ys _ x hx]
      exact drop_congr ys _ _ fun z _ => by
        by_cases hz : z = x
        · subst hz; simp
        · simp [hz, List.count_cons, Ne.symm hz]
    · show (if x ∈ ys then _ else ((x :: (uldF r ys).1), (uldF r ys).2)).2 = _
      rw [if_neg hx]
      show (uldF r ys).2 = _
      rw [uld_left r ys]
      exact drop_congr ys _ _ fun z hz => by
        have : x ≠ z := fun e => hx (e ▸ hz)
        simp [List.count_cons, this]
theorem left_drop (xs : List Int) : ∀ (ys seen : List Int), dropF (fun z => xs.count z - seen.count z) ys = leftF xs seen ys
  | [], _ => rfl
  | y :: r, seen => by
    have hc : (seen ++ [y]).count y = seen.count y + 1 := by simp [List.count_append]
    show (if 0 < xs.count y - seen.count y then dropF (fun z => if z = y then (xs.count z - seen.count z) - 1 else xs.count z - seen.count z) r else y :: dropF (fun z => xs.count z - seen.count z) r) =
      if (seen ++ [y]).count y > xs.count y then y :: leftF xs (seen ++ [y]) r else leftF xs (seen ++ [y]) r
    by_cases h : 0 < xs.count y - seen.count y
    · rw [if_pos h, if_neg (by omega), ← left_drop xs r (seen ++ [y])]
      exact drop_congr r _ _ fun z _ => by
        by_cases hz : z = y
        · subst hz; simp [hc]; omega
        · simp [hz, List.count_append, List.count_cons, Ne.symm hz]
    · rw [if_neg h, if_pos (by omega), ← left_drop xs r (seen ++ [y])]
      congr 1
      exact drop_congr r _ _ fun z _ => by
        by_cases hz : z = y
        · subst hz; rw [hc]; omega
        · simp [List.count_append, List.count_cons, Ne.symm hz]
theorem uld_law (xs ys : List Int) : uldF xs.reverse ys = (missF ys [] xs.reverse, leftF xs [] ys) := by
  refine Prod.ext ?_ ?_
  · exact uld_miss ys xs.reverse [] ys fun z => by simp
  · show (uldF xs.reverse ys).2 = leftF xs [] ys
    rw [uld_left, ← left_drop xs ys []]
    exact drop_congr ys _ _ fun z _ => by simp
end Mine
end

section
namespace Mine
set_option maxRecDepth 100000
set_option maxHeartbeats 1000000
set_option linter.all false
noncomputable def PV (h : Heap) (hs : Str) (v : Value) (n : Int) : Prop := ∃ a th tn, v = .ref a ∧ h.get? a = some (pairObj hs th n tn)
noncomputable abbrev pd (hs : Str) (n : Int) : PyData := .tuple [.str hs, .int n]
theorem PV.keeps {h h' : Heap} {hs : Str} {v : Value} {n : Int} (x : PV h hs v n) (k : Kp h h') : PV h' hs v n := by
  obtain ⟨a, th, tn, rfl, e⟩ := x
  exact ⟨a, th, tn, rfl, k _ _ e⟩
theorem PV.reads {h : Heap} {hs : Str} {v : Value} {n : Int} (x : PV h hs v n) : Reads h v (pd hs n) [] := by
  obtain ⟨a, th, tn, rfl, e⟩ := x
  exact pair_reads e
theorem PV.eqAt {A : Around} {s : Shared} {hs : Str} {v u : Value} {n k : Int} (x : PV s.heap hs v n) (y : PV s.heap hs u k) (hok : PyData.strOk hs = true) (hu : A.units + 64 < cLine) : SeqAt.EqAt A s v u (n == k) := by
  have := SeqAt.eqAt_reads (pd hs n) (pd hs k) A s v u [] [] x.reads y.reads (by simp [PyData.canLay0, PyData.canLayAll0, hok]) (by simp [PyData.canLay0, PyData.canLayAll0, hok]) (by
    simp [PyData.depth, PyData.depthAll]; omega)
  rw [eqv_pair] at this
  simpa using this
inductive PVs (h : Heap) (hs : Str) : List Value → List Int → Prop
  | nil : PVs h hs [] []
  | cons {v vs n ns} : PV h hs v n → PVs h hs vs ns → PVs h hs (v :: vs) (n :: ns)
section
variable {h h' : Heap} {hs : Str} {vs : List Value} {ns : List Int}
theorem PVs.keeps (x : PVs h hs vs ns) (k : Kp h h') : PVs h' hs vs ns := by induction x with | nil => exact .nil | cons p _ ih => exact .cons (p.keeps k) ih
theorem PVs.length (x : PVs h hs vs ns) : vs.length = ns.length := by induction x with | nil => rfl | cons _ _ ih => simp [ih]
theorem PVs.get (x : PVs h hs vs ns) : ∀ (i : Nat) v, vs[i]? = some v → ∃ n, ns[i]? = some n ∧ PV h hs v n := by
  induction x with
  | nil => intro i v e; simp at e
  | cons p _ ih =>
    intro i v e
    cases i with
    | zero => simp at e; subst e; exact ⟨_, rfl, p⟩
    | succ i => simp at e ⊢; exact ih i v e
theorem PVs.reads (x : PVs h hs vs ns) : ReadsAll h vs (ns.map (pd hs)) [] := by
  induction x with
  | nil => exact .nil
  | cons p _ ih => exact ReadsAll.cons p.reads ih
theorem PVs.append {us : List Value} {ks : List Int} (x : PVs h hs vs ns) (y : PVs h hs us ks) : PVs h hs (vs ++ us) (ns ++ ks) := by
  induction x with
  | nil => exact y
  | cons p _ ih => exact .cons p ih
theorem PVs.eraseIdx (x : PVs h hs vs ns) : ∀ j : Nat, PVs h hs (vs.eraseIdx j) (ns.eraseIdx j) := by
  induction x with
  | nil => intro j; exact .nil
  | cons p r ih =>
    intro j
    cases j with
    | zero => exact r
    | succ j => exact .cons p (ih j)
end
section
variable {prog : Program} {w : World} {A : Around} {E : Value → Shared → Prop} {Q : Flow → Shared → Prop} {s : Shared} {env : Env}
theorem whileG {test : Expr} {body : List Stmt} {pos : Pos} (I : Nat → Shared → Prop) (n₀ : Nat) (h0 : I n₀ s)
    (turn : ∀ n s', I n s' → wpAny (model prog w) A (isTrue test env (eval test env)) (fun b s₂ => if b = true then wpAny (model prog w) A (execs body env) (fun f s₃ => Hold (f = .next ∧ ∃ m, m < n ∧ I m s₃)) (fun _ _ => False) s₂ else Q .next s₂) (fun _ _ => False) s') :
    wpAny (model prog w) A (exec (.While test body [] pos) env) Q E s := by
  refine wpAny_While (codeAny_whileLoop I (fun n s' hI => ?_) n₀ h0)
  refine wpAny_mono (turn n s' hI) (fun b s₂ h₂ => ?_) fun _ _ e => e.elim
  cases b with
  | false =>
    simp only [Bool.false_eq_true, if_false] at h₂ ⊢
    exact wpAny_execs_nil h₂
  | true =>
    simp only [if_true] at h₂ ⊢
    refine wpAny_mono h₂ (fun f s₃ h₃ => ?_) fun _ _ e => e.elim
    obtain ⟨rfl, m, hm, hI'⟩ := h₃.it
    exact ⟨m, hm, hI'⟩
end
theorem PVs.turn {fs : List Addr} {h g' : Heap} {hs : Str} {vs : List Value} {ns : List Int} (x : PVs h hs vs ns) (D : KtsDicts fs h) (Tn : KtsTurn fs h g') : PVs g' hs vs ns := by
  induction x with
  | nil => exact .nil
  | cons p _ ih =>
    obtain ⟨a, th, tn, rfl, e⟩ := p
    exact .cons ⟨a, th, tn, rfl, turn_keeps D Tn e fun es n q => by cases q⟩ ih
theorem PV.one {h : Heap} {hs : Str} {v : Value} {n k : Int} (x : PV h hs v n) (y : PV h hs v k) : n = k := by
  obtain ⟨a, th, tn, rfl, e⟩ := x
  obtain ⟨b, th', tn', e2, e3⟩ := y
  cases e2
  rw [e] at e3
  simp [pairObj] at e3
  exact e3.2.1
theorem PVs.snoc {h : Heap} {hs : Str} : ∀ {vs : List Value} {v : Value} {ns : List Int}, PVs h hs (vs ++ [v]) ns → ∃ ks n, ns = ks ++ [n] ∧ PVs h hs vs ks ∧ PV h hs v n
  | [], v, _, .cons p .nil => ⟨[], _, rfl, .nil, p⟩
  | u :: vs, v, _, .cons p r => by
    obtain ⟨ks, n, rfl, x, y⟩ := PVs.snoc r
    exact ⟨_ :: ks, n, rfl, .cons p x, y⟩
open Classical in
noncomputable def hitF (h : Heap) (hs : Str) (x : Int) (v : Value) : Bool := decide (PV h hs v x)
theorem hit_of {h : Heap} {hs : Str} {x n : Int} {v : Value} (p : PV h hs v n) : hitF h hs x v = (n == x) := by
  unfold hitF
  by_cases e : n = x
  · subst e; simp [p]
  · have : ¬ PV h hs v x := fun q => e (p.one q)
    simp [this, e]
theorem hit_get {h : Heap} {hs : Str} {x : Int} {vs : List Value} {ns : List Int} (p : PVs h hs vs ns) (i : Nat) (hi : i < vs.toArray.size) : ∃ n, ns[i]? = some n ∧ hitF h hs x vs.toArray[i] = (n == x) := by
  obtain ⟨n, e, q⟩ := p.get i vs.toArray[i] (by simp at hi ⊢)
  exact ⟨n, e, hit_of q⟩
section
variable {prog : Program} {w : World} {A : Around} {E : Value → Shared → Prop} {s : Shared} {Q : Value → Shared → Prop} {g : Heap} {L D : Addr} {m : Str → Option Value} {pre post : List (Addr × Obj)} {hs : Str} {ps : List Value} {ul : Value} {y1 : List Int} {x : Int} {w1 : Nat}
theorem hit_eqs (p : PVs s.heap hs ps y1) (pl : PV s.heap hs ul x) (hok : PyData.strOk hs = true) (hu : A.units + 65 < cLine) : ∀ v, v ∈ ps.toArray → SeqAt.EqAt A.in1 s v ul (hitF s.heap hs x v) := fun v hv => by
  obtain ⟨i, hi, e⟩ := List.getElem_of_mem (show v ∈ ps by simpa using hv)
  obtain ⟨n, _, q⟩ := p.get i v (by rw [List.getElem?_eq_getElem hi, e])
  rw [hit_of q]
  exact q.eqAt pl hok (by show A.units + 1 + 64 < cLine; omega)
theorem rem_hit (F : Fr g L s.heap m) (N : News g L s.heap (pre ++ (D, lobj ps w1) :: post)) (a : ∀ p ∈ pre, p.1 ≠ D) (b : ∀ p ∈ post, p.1 ≠ D) (p : PVs s.heap hs ps y1) (pl : PV s.heap hs ul x) (hok : PyData.strOk hs = true) (hu : A.units + 65 < cLine) (hz : ps.length ≤ 100) (hx : x ∈ y1)
    (h : ∀ h' j, Fr g L h' m → News g L h' (pre ++ (D, lobj (ps.eraseIdx j) (w1 + 1)) :: post) → y1.eraseIdx j = y1.erase x → Q .none { s with heap := h' }) : wpAny (model prog w) A (call (.builtin "list.remove") [.ref D, ul]) Q E s := by
  have z := N (D, lobj ps w1) (List.mem_append.mpr (.inr (.head _)))
  have hj : y1.idxOf x < y1.length := List.idxOf_lt_length_iff.mpr hx
  have hjp : y1.idxOf x < ps.toArray.size := by rw [List.size_toArray, p.length]; exact hj
  have hit : hitF s.heap hs x ps.toArray[y1.idxOf x] = true := by
    obtain ⟨n, e, q⟩ := hit_get (x := x) p _ hjp
    rw [q]
    rw [List.getElem?_eq_getElem hj, List.getElem_idxOf hj] at e
    cases e
    simp
  have hno : ∀ k (hk : k < ps.toArray.size), k < y1.idxOf x → hitF s.heap hs x ps.toArray[k] = false := fun k hk hlt => by
    obtain ⟨n, e, q⟩ := hit_get (x := x) p k hk
    rw [q]
    have hk' : k < y1.length := by omega
    rw [List.getElem?_eq_getElem hk'] at e
    have := List.not_of_lt_findIdx (p := (· == x)) (xs := y1) hlt
    cases e
    simpa using this
  refine call_meets PySem.F.slot_list_remove ⟨_, z.1, rfl⟩ PySem.F.entry_list_remove (PySem.F.args_list_remove_2 _ _) (remove_at D ps.toArray w1 ul _ _ hjp hit hno (by simp; rw [sizeLine_eq]; omega)) ⟨z.1, hit_eqs p pl hok hu, ?_⟩
  refine h _ (y1.idxOf x) (F.change (Heap.SameBut.update ..) z.2.1 z.2.2) (kl_turn _ N a b ?_ ?_) ?_
  · have : y1.idxOf x < ps.length := by simpa using hjp
    simp [Array.eraseIdxIfInBounds, this, List.eraseIdx_toArray]
  · have : y1.idxOf x < ps.length := by simpa using hjp
    simp [List.length_eraseIdx, this]; omega
  · rw [List.erase_eq_eraseIdx_of_idxOf rfl]
theorem rem_miss (hh : A.handled = none) (hl : s.heap.get? D = some (lobj ps w1)) (p : PVs s.heap hs ps y1) (pl : PV s.heap hs ul x) (hok : PyData.strOk hs = true) (hu : A.units + 65 < cLine) (hx : x ∉ y1)
    (h : ∀ h' tk e, Heap.NewExc s.heap h' e "ValueError" → E (.ref e) { s with heap := h', toks := tk }) : wpAny (model prog w) A (call (.builtin "list.remove") [.ref D, ul]) Q E s := by
  have hno : ∀ k (hk : k < ps.toArray.size), hitF s.heap hs x ps.toArray[k] = false := fun k hk => by
    obtain ⟨n, e, q⟩ := hit_get (x := x) p k hk
    rw [q]
    have : n ∈ y1 := List.mem_of_getElem? e
    simp only [beq_eq_false_iff_ne, ne_eq]
    intro e2
    exact hx (e2 ▸ this)
  exact call_meets PySem.F.slot_list_remove ⟨_, hl, rfl⟩ PySem.F.entry_list_remove (PySem.F.args_list_remove_2 _ _) (remove_none D ps.toArray w1 ul _ hno) ⟨hl, hit_eqs p pl hok hu, hh, h⟩
end
theorem two_lists {h : Heap} {D M c : Addr} {hs : Str} {ms ps : List Value} {m1 y1 : List Int} {q w : Nat} {n : Nat} (hD : h.get? D = some { cls := .type "tuple", data := .seq #[.ref M, .ref c] n }) (hM : h.get? M = some (lobj ms q)) (hC : h.get? c = some (lobj ps w)) (p3 : PVs h hs ms m1) (p2 : PVs h hs ps y1) :
    ∃ as, Reads h (.ref D) (.tuple [.list (m1.map (pd hs)), .list (y1.map (pd hs))]) as :=
  ⟨_, reads_tuple_at hD rfl rfl (ReadsAll.cons (Reads.list hM rfl rfl (by simpa using p3.reads)) (ReadsAll.cons (Reads.list hC rfl rfl (by simpa using p2.reads)) ReadsAll.nil))⟩
noncomputable abbrev uldMap (ea ac M : Addr) (oi : Option Value) : Str → Option Value := fun y =>
  if y = Str.ofString "item" then oi else if y = Str.ofString "missing" then some (.ref M) else List.lookup y [(Str.ofString "expected", Value.ref ea), (Str.ofString "actual", Value.ref ac)].reverse
noncomputable def uld_spec.Stm (w : World) (A : Around) (E : Value → Shared → Prop) (s : Shared) (base : Heap) (mg : Str → Option Value) (mb : Str → Option Value) (mean : ExcName → Option Value) (Q : Value → Shared → Prop) (outer : List Env) (g : Heap) (ea : Addr) (ac : Addr) (hs : Str) (vs : List Value) (ws : List Value) (xs : List Int) (ys : List Int) (z : Nat) (y : Nat) : Prop := ∀  (G : Gr w A base outer mean mg mb g) (hh : A.handled = none) (XB : (Mine.KC w.params).In base) (TB : Top EMP LS mean mg mb base) (hg : Kp g s.heap) (hsz : g.objs.size ≤ s.heap.objs.size) (X : (Mine.KC w.params).In s.heap) (T : Top EMP LS mean mg mb s.heap) (B : Below A base outer s.heap) (he0 : g.get? ea = none) (ha0 : g.get? ac = none) (hne : ea ≠ ac) (hex : s.heap.get? ea = some (lobj vs z)) (hac : s.heap.get? ac = some (lobj ws y)) (hv : PVs g hs vs xs) (hw : PVs g hs ws ys) (hok : PyData.strOk hs = true) (hn : vs.length ≤ 100) (hm : ws.length ≤ 100) (hd : A.depth + 2 < recursionLimit) (hu : A.units + 200 < cLine) (ret : ∀ v g' h' tk, KtsTurn (outer.filterMap (·.frame)) g g' → Kp g' h' → (∃ as, Reads h' v (.tuple [.list ((uldF xs.reverse ys).1.map (pd hs)), .list ((uldF xs.reverse ys).2.map (pd hs))]) as) → Q v { s with heap := h', toks := tk }), wpAny (model PROG w) A (call (.ref 89) [.ref ea, .ref ac]) Q E s
noncomputable def uld_spec.cst : (World) × (Around) × (Value → Shared → Prop) × (Shared) × (Heap) × (Str → Option Value) × (Str → Option Value) × (ExcName → Option Value) × (Value → Shared → Prop) × (List Env) × (Heap) × (Addr) × (Addr) × (Str) × (List Value) × (List Value) × (List Int) × (List Int) × (Nat) × (Nat) := eps (aWorld 0, {}, fun _ _ => True, {}, {}, fun _ => none, fun _ => none, fun _ => none, fun _ _ => True, [], {}, 0, 0, Str.empty, [], [], [], [], 0, 0) (fun q => uld_spec.Stm q.1 q.2.1 q.2.2.1 q.2.2.2.1 q.2.2.2.2.1 q.2.2.2.2.2.1 q.2.2.2.2.2.2.1 q.2.2.2.2.2.2.2.1 q.2.2.2.2.2.2.2.2.1 q.2.2.2.2.2.2.2.2.2.1 q.2.2.2.2.2.2.2.2.2.2.1 q.2.2.2.2.2.2.2.2.2.2.2.1 q.2.2.2.2.2.2.2.2.2.2.2.2.1 q.2.2.2.2.2.2.2.2.2.2.2.2.2.1 q.2.2.2.2.2.2.2.2.2.2.2.2.2.2.1 q.2.2.2.2.2.2.2.2.2.2.2.2.2.2.2.1 q.2.2.2.2.2.2.2.2.2.2.2.2.2.2.2.2.1 q.2.2.2.2.2.2.2.2.2.2.2.2.2.2.2.2.2.1 q.2.2.2.2.2.2.2.2.2.2.2.2.2.2.2.2.2.2.1 q.2.2.2.2.2.2.2.2.2.2.2.2.2.2.2.2.2.2.2)
namespace uld_spec
noncomputable def w : World := cst.1
noncomputable def A : Around := cst.2.1
noncomputable def s : Shared := cst.2.2.2.1
noncomputable def base : Heap := cst.2.2.2.2.1
noncomputable def mg : Str → Option Value := cst.2.2.2.2.2.1
noncomputable def mb : Str → Option Value := cst.2.2.2.2.2.2.1
noncomputable def mean : ExcName → Option Value := cst.2.2.2.2.2.2.2.1
noncomputable def outer : List Env := cst.2.2.2.2.2.2.2.2.2.1
noncomputable def g : Heap := cst.2.2.2.2.2.2.2.2.2.2.1
noncomputable def ea : Addr := cst.2.2.2.2.2.2.2.2.2.2.2.1
noncomputable def ac : Addr := cst.2.2.2.2.2.2.2.2.2.2.2.2.1
noncomputable def hs : Str := cst.2.2.2.2.2.2.2.2.2.2.2.2.2.1
noncomputable def vs : List Value := cst.2.2.2.2.2.2.2.2.2.2.2.2.2.2.1
noncomputable def ws : List Value := cst.2.2.2.2.2.2.2.2.2.2.2.2.2.2.2.1
noncomputable def xs : List Int := cst.2.2.2.2.2.2.2.2.2.2.2.2.2.2.2.2.1
noncomputable def ys : List Int := cst.2.2.2.2.2.2.2.2.2.2.2.2.2.2.2.2.2.1
noncomputable def z : Nat := cst.2.2.2.2.2.2.2.2.2.2.2.2.2.2.2.2.2.2.1
noncomputable def y : Nat := cst.2.2.2.2.2.2.2.2.2.2.2.2.2.2.2.2.2.2.2
noncomputable def L' : Addr := s.heap.objs.size
theorem it : Stm w A cst.2.2.1 s base mg mb mean cst.2.2.2.2.2.2.2.2.1 outer g ea ac hs vs ws xs ys z y := by
  intro  G hh XB TB hg hsz X T B he0 ha0 hne hex hac hv hw hok hn hm hd hu ret
  have hfill : (fun (_ : OpenLaw) (_ : Params → Frag) => True) PySem.Challenge.rw_nq0040_01 Mine.KC := by (k_fill; trivial)
  clear hfill
  w_top off
  k_dflt (refine' enterP0 (L := L') rfl (binds := [(Str.ofString "expected", .ref ea), (Str.ofString "actual", .ref ac)]) ?k1 ?k2 ?k3 ?k6 ?k7 ?k8 ?k9 ?kB ?_ ?c2 ?c3 ?c4 ?c5; (case k1 => assumption); (case k2 => assumption); (case k3 => assumption); (case k6 => k_is); (case k7 => k_is); (case k8 => omega); (case k9 => first | exact BindsTo.of_eq rfl | exact binds_K (by assumption) rfl (by k_is) rfl rfl rfl); (case c5 => decide); (case kB => exact locs rfl); (case c2 => exact rfl); (case c3 => exact rfl); (case c4 => exact rfl); k_whole)
  intro h' F' N'
  try dsimp only
  k_fold
  have hL : ea ≠ L' := fun e => by have := kts_self F'; rw [← e, hex] at this; cases this
  have hL2 : ac ≠ L' := fun e => by have := kts_self F'; rw [← e, hac] at this; cases this
  have F0 : Fr g L' h' _ := ⟨F'.ns, fun b o e => F'.keep b o (hg b o e), Nat.le_trans hsz F'.above⟩
  have N0 : News g L' h' [(ea, lobj vs z), (ac, lobj ws y)] := fun p hp => by
    rcases List.mem_cons.mp hp with rfl | hp
    · exact ⟨F'.keep _ _ hex, hL, he0⟩
    · rw [List.mem_singleton.mp hp]; exact ⟨F'.keep _ _ hac, hL2, ha0⟩
  have G' := G
  obtain ⟨B2, X2, T2, D2⟩ := G'
  clear X T B F' N'
  repeat' (first | ((with_reducible show wpAny _ _ (exec (PySem.Stmt.While (PySem.Expr.Name _ _) (_ :: _) [] _) _) _ _ _); refine Hold.it ?_) | ((with_reducible show wpAny _ _ (call (Value.builtin "list.append") _ _) _ _ _); refine Hold.it ?_) | ((with_reducible show wpAny _ _ (call (Value.builtin "list.remove") _ _) _ _ _); refine Hold.it ?_) | ((with_reducible show wpAny _ _ (call (Value.builtin "list.pop") _ _) _ _ _); refine Hold.it ?_) | walk_at "m1")
  refine ⟨?_⟩
  rename_i M _ l1 h1 F1 N1
  have hMe : M ≠ ea := Nat.ne_of_gt l1.1
  have hMa : M ≠ ac := Nat.ne_of_gt l1.2
  refine whileG (fun n s' => ∃ g1 h tk oi us ps ms x1 y1 m1 z1 w1 q1, s' = { s with heap := h, toks := tk } ∧ KtsTurn (outer.filterMap (·.frame)) g g1 ∧ Gr w A base outer mean mg mb g1 ∧ Fr g1 L' h (uldMap ea ac M oi) ∧
    News g1 L' h [(M, lobj ms q1), (ea, lobj us z1), (ac, lobj ps w1)] ∧ PVs g1 hs us x1 ∧ PVs g1 hs ps y1 ∧ PVs g1 hs ms m1 ∧ n = us.length ∧ us.length + ms.length ≤ 100 ∧ ps.length ≤ 100 ∧
    uldF xs.reverse ys = (m1 ++ (uldF x1.reverse y1).1, (uldF x1.reverse y1).2)) vs.length ?i0 ?st
  case i0 =>
    refine' ⟨g, _, _, none, vs, ws, [], xs, ys, [], z, y, 0, rfl, KtsTurn.refl, G, Fr.as F1 ?ia, N1, hv, hw, .nil, rfl, ?ib, hm, rfl⟩
    case ia => (funext zz; by_cases hz0 : zz = PySem.Str.ofString "item"; (focus (subst hz0; rfl)); by_cases hz1 : zz = PySem.Str.ofString "missing"; (focus (subst hz1; rfl)); (try dsimp only); (try simp only [if_neg hz0]); (try simp only [if_neg hz1]); (try rfl))
    case ib => simpa using hn
  case st =>
    rintro n s' ⟨g1, h, tk, oi, us, ps, ms, x1, y1, m1, z1, w1, q1, rfl, Tn, G1, F2, N2, p1, p2, p3, rfl, hl1, hl2, hul⟩
    have G1' := G1
    obtain ⟨B3, X3, T3, D3⟩ := G1'
    clear F1 N1 X2 T2 B2 D2
    repeat' (first | ((with_reducible show wpAny _ _ (exec (PySem.Stmt.While (PySem.Expr.Name _ _) (_ :: _) [] _) _) _ _ _); refine Hold.it ?_) | ((with_reducible show wpAny _ _ (call (Value.builtin "list.append") _ _) _ _ _); refine Hold.it ?_) | ((with_reducible show wpAny _ _ (call (Value.builtin "list.remove") _ _) _ _ _); refine Hold.it ?_) | ((with_reducible show wpAny _ _ (call (Value.builtin "list.pop") _ _) _ _ _); refine Hold.it ?_) | walk_at "m1")
    have hea : h.IsList ea us.toArray := ⟨_, N2.get (.tail _ (.head _)), rfl, _, rfl⟩
    refine' wpAny_truthy_list (items := us.toArray) ?ta ?tb ?_
    case ta => exact hea
    case tb => simp; omega
    cases us with
    | nil =>
      cases p1
      repeat' (first | ((with_reducible show wpAny _ _ (exec (PySem.Stmt.While (PySem.Expr.Name _ _) (_ :: _) [] _) _) _ _ _); refine Hold.it ?_) | ((with_reducible show wpAny _ _ (call (Value.builtin "list.append") _ _) _ _ _); refine Hold.it ?_) | ((with_reducible show wpAny _ _ (call (Value.builtin "list.remove") _ _) _ _ _); refine Hold.it ?_) | ((with_reducible show wpAny _ _ (call (Value.builtin "list.pop") _ _) _ _ _); refine Hold.it ?_) | walk_at "m1")
      rename_i D9 h9 F9 N9 l9
      have k9 : Kp g1 h9 := F9.keep
      dsimp only
      refine ret _ g1 _ _ Tn k9 ?_
      rw [hul]
      simp only [List.reverse_nil, uldF, List.append_nil]
      exact two_lists (N9.get (.head _)) (N9.get (.tail _ (.head _))) (N9.get (.tail _ (.tail _ (.tail _ (.head _))))) (p3.keeps k9) (p2.keeps k9)
    | cons u0 ur =>
      obtain ⟨up, ul, hus⟩ : ∃ up ul, u0 :: ur = up ++ [ul] := ⟨_, _, (List.dropLast_concat_getLast (List.cons_ne_nil u0 ur)).symm⟩
      rw [hus] at p1 N2 hl1 hea ⊢
      have hb : (!(up ++ [ul]).toArray.isEmpty) = true := by simp
      rw [hb]
      repeat' (first | ((with_reducible show wpAny _ _ (exec (PySem.Stmt.While (PySem.Expr.Name _ _) (_ :: _) [] _) _) _ _ _); refine Hold.it ?_) | ((with_reducible show wpAny _ _ (call (Value.builtin "list.append") _ _) _ _ _); refine Hold.it ?_) | ((with_reducible show wpAny _ _ (call (Value.builtin "list.remove") _ _) _ _ _); refine Hold.it ?_) | ((with_reducible show wpAny _ _ (call (Value.builtin "list.pop") _ _) _ _ _); refine Hold.it ?_) | walk_at "m1")
      refine ⟨?_⟩
      refine kl_pop (its := (up ++ [ul]).toArray) (p := up) (y := ul) F2 N2 (by simpa using kpa_last ul up) (Upd.tail hMe (Upd.head (fun p hp => by rw [List.mem_singleton.mp hp]; exact Ne.symm hne))) (by simp at hl1 ⊢; rw [sizeLine_eq]; omega) ?_
      intro h3 F3 N3
      clear F2 N2
      repeat' (first | ((with_reducible show wpAny _ _ (exec (PySem.Stmt.While (PySem.Expr.Name _ _) (_ :: _) [] _) _) _ _ _); refine Hold.it ?_) | ((with_reducible show wpAny _ _ (call (Value.builtin "list.append") _ _) _ _ _); refine Hold.it ?_) | ((with_reducible show wpAny _ _ (call (Value.builtin "list.remove") _ _) _ _ _); refine Hold.it ?_) | ((with_reducible show wpAny _ _ (call (Value.builtin "list.pop") _ _) _ _ _); refine Hold.it ?_) | walk_at "m1")
      refine ⟨?_⟩
      rename_i F4 N4
      obtain ⟨xp, x, rfl, pp, pl⟩ := p1.snoc
      rw [List.reverse_append, List.reverse_singleton, List.singleton_append] at hul
      have k4 : Kp g1 _ := F4.keep
      have hps4 := p2.keeps k4
      have pl4 := pl.keeps k4
      by_cases hx : x ∈ y1
      · refine rem_hit (pre := [(M, lobj ms q1), (ea, lobj up (z1 + 1))]) (post := []) F4 N4 ?ra ?rb hps4 pl4 hok ?rc hl2 hx ?_
        case ra =>
          intro p hp
          rcases List.mem_cons.mp hp with rfl | hp
          · exact hMa
          · rw [List.mem_singleton.mp hp]; exact hne
        case rb => intro p hp; cases hp
        case rc => show A.units + 3 + 65 < cLine; omega
        intro h5 j F5 N5 hj
        clear F4 N4
        repeat' (first | ((with_reducible show wpAny _ _ (exec (PySem.Stmt.While (PySem.Expr.Name _ _) (_ :: _) [] _) _) _ _ _); refine Hold.it ?_) | ((with_reducible show wpAny _ _ (call (Value.builtin "list.append") _ _) _ _ _); refine Hold.it ?_) | ((with_reducible show wpAny _ _ (call (Value.builtin "list.remove") _ _) _ _ _); refine Hold.it ?_) | ((with_reducible show wpAny _ _ (call (Value.builtin "list.pop") _ _) _ _ _); refine Hold.it ?_) | walk_at "m1")
        refine' ⟨rfl, up.length, ?za, g1, _, _, some ul, up, ps.eraseIdx j, ms, xp, y1.erase x, m1, _, _, _, rfl, Tn, G1, Fr.as F5 ?zb, N5, pp, ?zc, p3, rfl, ?zd, ?ze, ?zf⟩
        case za => simp
        case zb => (funext zz; by_cases hz0 : zz = PySem.Str.ofString "item"; (focus (subst hz0; rfl)); by_cases hz1 : zz = PySem.Str.ofString "missing"; (focus (subst hz1; rfl)); (try dsimp only); (try simp only [if_neg hz0]); (try simp only [if_neg hz1]); (try rfl))
        case zc => rw [← hj]; exact p2.eraseIdx j
        case zd => simp at hl1; omega
        case ze => have := List.length_eraseIdx_le (l := ps) (i := j); omega
        case zf => rw [hul]; simp only [uldF, if_pos hx]
      · refine rem_miss (ps := ps) (w1 := w1) hh (N4.get (.tail _ (.tail _ (.head _)))) hps4 pl4 hok ?rc hx ?_
        case rc => show A.units + 3 + 65 < cLine; omega
        intro h5 tk5 e5 hx5
        dsimp only
        refine look_new B3 hx5 F4 N4 rfl ?_
        intro G6 h6 R6 F6 U6
        refine' hit_SN0 R6 F6 B3 U6 XB TB D3 KtsTurn.refl (test_name (c := .type "ValueError") ?n1 ?n2 rfl rfl ?n3) ?_
        case n1 => exact .inr ⟨by k_is, PyProof.Rows.Boot.«ValueError», by decide⟩
        case n2 => exact rfl
        case n3 => decide
        intro h7 g7 T7 F7 N7 B7 X7 P7 D7
        have pp7 := pp.turn D3 T7
        have pl7 : PV g7 hs ul x := by
          obtain ⟨a, th, tn, rfl, e⟩ := pl
          exact ⟨a, th, tn, rfl, turn_keeps D3 T7 e fun es n q => by cases q⟩
        have p27 := p2.turn D3 T7
        have p37 := p3.turn D3 T7
        clear F4 N4 X3 T3 B3 D3
        repeat' (first | ((with_reducible show wpAny _ _ (exec (PySem.Stmt.While (PySem.Expr.Name _ _) (_ :: _) [] _) _) _ _ _); refine Hold.it ?_) | ((with_reducible show wpAny _ _ (call (Value.builtin "list.append") _ _) _ _ _); refine Hold.it ?_) | ((with_reducible show wpAny _ _ (call (Value.builtin "list.remove") _ _) _ _ _); refine Hold.it ?_) | ((with_reducible show wpAny _ _ (call (Value.builtin "list.pop") _ _) _ _ _); refine Hold.it ?_) | walk_at "m1")
        refine ⟨?_⟩
        refine append_head (its := ms.toArray) (n := q1) F7 N7 ?oa ?_ ?ob
        case oa =>
          intro p hp
          rcases List.mem_cons.mp hp with rfl | hp
          · exact Ne.symm hMe
          · rw [List.mem_singleton.mp hp]; exact Ne.symm hMa
        case ob => simp; rw [sizeLine_eq]; simp at hl1; omega
        intro h8 F8 N8
        have eo : ({ cls := .type "list", data := .seq (ms.toArray.push ul) (q1 + 1) } : Obj) = lobj (ms ++ [ul]) (q1 + 1) := by simp [lobj]
        rw [eo] at N8
        clear F7 N7
        repeat' (first | ((with_reducible show wpAny _ _ (exec (PySem.Stmt.While (PySem.Expr.Name _ _) (_ :: _) [] _) _) _ _ _); refine Hold.it ?_) | ((with_reducible show wpAny _ _ (call (Value.builtin "list.append") _ _) _ _ _); refine Hold.it ?_) | ((with_reducible show wpAny _ _ (call (Value.builtin "list.remove") _ _) _ _ _); refine Hold.it ?_) | ((with_reducible show wpAny _ _ (call (Value.builtin "list.pop") _ _) _ _ _); refine Hold.it ?_) | walk_at "m1")
        refine' ⟨rfl, up.length, ?ya, g7, _, _, some ul, up, ps, ms ++ [ul], xp, y1, m1 ++ [x], _, _, _, rfl, Tn.trans T7, ⟨B7, X7, P7, D7⟩, Fr.as F8 ?yb, N8, pp7, p27, p37.append (.cons pl7 .nil), rfl, ?yd, hl2, ?yf⟩
        case ya => simp
        case yb => (funext zz; by_cases hz0 : zz = PySem.Str.ofString "item"; (focus (subst hz0; rfl)); by_cases hz1 : zz = PySem.Str.ofString "missing"; (focus (subst hz1; rfl)); (try dsimp only); (try simp only [if_neg hz0]); (try simp only [if_neg hz1]); (try rfl))
        case yd => simp at hl1 ⊢; omega
        case yf => rw [hul]; simp only [uldF, if_neg hx]; simp
end uld_spec
theorem uld_spec {w : World} {A : Around} {E : Value → Shared → Prop} {s : Shared} {base : Heap} {mg : Str → Option Value} {mb : Str → Option Value} {mean : ExcName → Option Value} {Q : Value → Shared → Prop} {outer : List Env} {g : Heap} {ea : Addr} {ac : Addr} {hs : Str} {vs : List Value} {ws : List Value} {xs : List Int} {ys : List Int} {z : Nat} {y : Nat} 
   (G : Gr w A base outer mean mg mb g) (hh : A.handled = none) (XB : (Mine.KC w.params).In base) (TB : Top EMP LS mean mg mb base) (hg : Kp g s.heap) (hsz : g.objs.size ≤ s.heap.objs.size) (X : (Mine.KC w.params).In s.heap) (T : Top EMP LS mean mg mb s.heap) (B : Below A base outer s.heap) (he0 : g.get? ea = none) (ha0 : g.get? ac = none) (hne : ea ≠ ac) (hex : s.heap.get? ea = some (lobj vs z)) (hac : s.heap.get? ac = some (lobj ws y)) (hv : PVs g hs vs xs) (hw : PVs g hs ws ys) (hok : PyData.strOk hs = true) (hn : vs.length ≤ 100) (hm : ws.length ≤ 100) (hd : A.depth + 2 < recursionLimit) (hu : A.units + 200 < cLine) (ret : ∀ v g' h' tk, KtsTurn (outer.filterMap (·.frame)) g g' → Kp g' h' → (∃ as, Reads h' v (.tuple [.list ((uldF xs.reverse ys).1.map (pd hs)), .list ((uldF xs.reverse ys).2.map (pd hs))]) as) → Q v { s with heap := h', toks := tk }) : wpAny (model PROG w) A (call (.ref 89) [.ref ea, .ref ac]) Q E s :=
  (eps_at (G := fun q => uld_spec.Stm q.1 q.2.1 q.2.2.1 q.2.2.2.1 q.2.2.2.2.1 q.2.2.2.2.2.1 q.2.2.2.2.2.2.1 q.2.2.2.2.2.2.2.1 q.2.2.2.2.2.2.2.2.1 q.2.2.2.2.2.2.2.2.2.1 q.2.2.2.2.2.2.2.2.2.2.1 q.2.2.2.2.2.2.2.2.2.2.2.1 q.2.2.2.2.2.2.2.2.2.2.2.2.1 q.2.2.2.2.2.2.2.2.2.2.2.2.2.1 q.2.2.2.2.2.2.2.2.2.2.2.2.2.2.1 q.2.2.2.2.2.2.2.2.2.2.2.2.2.2.2.1 q.2.2.2.2.2.2.2.2.2.2.2.2.2.2.2.2.1 q.2.2.2.2.2.2.2.2.2.2.2.2.2.2.2.2.2.1 q.2.2.2.2.2.2.2.2.2.2.2.2.2.2.2.2.2.2.1 q.2.2.2.2.2.2.2.2.2.2.2.2.2.2.2.2.2.2.2) (c := uld_spec.cst) rfl uld_spec.it (w, A, E, s, base, mg, mb, mean, Q, outer, g, ea, ac, hs, vs, ws, xs, ys, z, y) : uld_spec.Stm w A E s base mg mb mean Q outer g ea ac hs vs ws xs ys z y)  G hh XB TB hg hsz X T B he0 ha0 hne hex hac hv hw hok hn hm hd hu ret
end Mine
end

section
set_option linter.all false
namespace Mine
noncomputable def Ex (h h' : Heap) (ex : List (Addr × Obj)) : Prop := ∀ p ∈ ex, h.get? p.1 = none ∧ h'.get? p.1 = some p.2
theorem Ex.nil {h h' : Heap} : Ex h h' [] := fun _ hp => nomatch hp
section
open LCg
variable {prog : Program} {w : World} {A : Around} {E : Value → Shared → Prop} {s : Shared} {h₀ : Heap} {L : Addr} {m : Str → Option Value} {env : Env}
theorem comp_end {h h' : Heap} {I C D : Addr} {oI oC : Obj} {ys : List Value} {nw ex : List (Addr × Obj)} {tk tk' : Nat} {S : List (Addr × Obj) → Prop} {rest : Value → List (Addr × Obj) → Prop} {y : Value}
    (F : Fr h₀ L h m) (N : News h₀ L h ((I, oI) :: (C, oC) :: (D, lst ys) :: nw)) (off : Off3 I C D nw) (k : Kp h h') (hex : Ex h h' ex) (hS : S (ex ++ nw)) (r : rest y (ex ++ nw)) :
    CompEnd h₀ L m { s with heap := h, toks := tk } I oI C oC D (lst ys) S rest y { s with heap := h', toks := tk' } := by
  refine ⟨h', tk', ex ++ nw, rfl, F.keeps k, fun p hp => ?_, Off3.of fun p hp => ?_, hS, r⟩
  · have N' := N.grown k
    rcases List.mem_cons.mp hp with rfl | hp
    · exact N' _ (.head _)
    · rcases List.mem_cons.mp hp with rfl | hp
      · exact N' _ (.tail _ (.head _))
      · rcases List.mem_cons.mp hp with rfl | hp
        · exact N' _ (.tail _ (.tail _ (.head _)))
        · rcases List.mem_append.mp hp with hp | hp
          · have := hex p hp
            refine ⟨this.2, fun e => ?_, kts_none F.keep this.1⟩
            obtain ⟨o, _, _, ho, _⟩ := F.ns
            rw [e, ho] at this; cases this.1
          · exact N' _ (.tail _ (.tail _ (.tail _ hp)))
  · rcases List.mem_append.mp hp with hp | hp
    · have := (hex p hp).1
      refine ⟨fun e => ?_, fun e => ?_, fun e => ?_⟩
      · rw [e, (N _ (.head _)).1] at this; cases this
      · rw [e, (N _ (.tail _ (.head _))).1] at this; cases this
      · rw [e, (N _ (.tail _ (.tail _ (.head _)))).1] at this; cases this
    · exact off.mem p hp
theorem rest_genU {elt : Expr} {x : Str} {scope : Scope} {cl : List (Str × Addr)} {S : List (Addr × Obj) → Prop} {P : Nat → Value → Prop} {Fin : List Value → List (Addr × Obj) → Prop} {news : List (Addr × Obj)} {n : Nat} (R : Nat → List Value → List (Addr × Obj) → Prop) (hS : ∀ i ys nw, R i ys nw → S nw) (h0 : R 0 [] news)
    (turn : ∀ (i : Nat) v I oI C oC D ys nw m₂ h tk, i < n → R i ys nw → P i v → NsObj oC m₂ → m₂ x = some v → Fr h₀ L h m → News h₀ L h ((I, oI) :: (C, oC) :: (D, lst ys) :: nw) → Off3 I C D nw →
      wpAny (model prog w) A (eval elt (compEnvC scope cl C env)) (fun y s' => Hold (∃ h' tk' ex, s' = { s with heap := h', toks := tk' } ∧ Kp h h' ∧ Ex h h' ex ∧ R (i + 1) (ys ++ [y]) (ex ++ nw))) (fun _ _ => False) { s with heap := h, toks := tk })
    (fin : ∀ ys nw, R n ys nw → Fin ys nw) :
    CompRest prog w A h₀ L m env elt x scope cl s S P Fin n 0 [] news := by
  refine CompRest.inv (n := n) R ?_ fin n 0 (by omega) h0
  intro i ys nw v I oI C oC D m₂ h tk E' hi hR hP hC hm F N off ne
  refine wpAny_mono (turn i v I oI C oC D ys nw m₂ h tk hi hR hP hC hm F N off) (fun y s' q => ?_) fun _ _ q => q.elim
  obtain ⟨h', tk', ex, rfl, k, hex, hR'⟩ := q.it
  exact comp_end F N off k hex (hS _ _ _ hR') hR'
theorem rest_genT {ct elt : Expr} {x : Str} {scope : Scope} {cl : List (Str × Addr)} {S : List (Addr × Obj) → Prop} {P : Nat → Value → Prop} {Fin : List Value → List (Addr × Obj) → Prop} {news : List (Addr × Obj)} {n : Nat} (R : Nat → List Value → List (Addr × Obj) → Prop) (hS : ∀ i ys nw, R i ys nw → S nw) (h0 : R 0 [] news)
    (turn : ∀ (i : Nat) v I oI C oC D ys nw m₂ h tk, i < n → R i ys nw → P i v → NsObj oC m₂ → m₂ x = some v → Fr h₀ L h m → News h₀ L h ((I, oI) :: (C, oC) :: (D, lst ys) :: nw) → Off3 I C D nw →
      wpAny (model prog w) A (isTrue ct (compEnvC scope cl C env) (eval ct (compEnvC scope cl C env))) (fun ok s' => Hold (if ok = true then
          wpAny (model prog w) A (eval elt (compEnvC scope cl C env)) (fun y s' => Hold (∃ h' tk' ex, s' = { s with heap := h', toks := tk' } ∧ Kp h h' ∧ Ex h h' ex ∧ R (i + 1) (ys ++ [y]) (ex ++ nw))) (fun _ _ => False) s'
        else ∃ h' tk', s' = { s with heap := h', toks := tk' } ∧ Kp h h' ∧ R (i + 1) ys nw)) (fun _ _ => False) { s with heap := h, toks := tk })
    (fin : ∀ ys nw, R n ys nw → Fin ys nw) :
    LCt.CompRestT prog w A h₀ L m env ct elt x scope cl s S P Fin n 0 [] news := by
  refine CompRestT.inv (n := n) R ?_ fin n 0 (by omega) h0
  intro i ys nw v I oI C oC D m₂ h tk E' hi hR hP hC hm F N off ne
  refine wpAny_mono (turn i v I oI C oC D ys nw m₂ h tk hi hR hP hC hm F N off) (fun ok s' q => ?_) fun _ _ q => q.elim
  have q := q.it
  cases ok with
  | true =>
    simp only [if_true] at q ⊢
    refine wpAny_mono q (fun y s'' q => ?_) fun _ _ q => q.elim
    obtain ⟨h', tk', ex, rfl, k, hex, hR'⟩ := q.it
    exact comp_end F N off k hex (hS _ _ _ hR') hR'
  | false =>
    simp only [Bool.false_eq_true, if_false] at q ⊢
    obtain ⟨h', tk', rfl, k, hR'⟩ := q
    exact comp_end (ex := []) F N off k Ex.nil (hS _ _ _ hR') hR'
theorem rest_newsT {ct elt : Expr} {x : Str} {scope : Scope} {cl : List (Str × Addr)} {S : List (Addr × Obj) → Prop} {P : Nat → Value → Prop} {Fin : List Value → List (Addr × Obj) → Prop} {news : List (Addr × Obj)} {n : Nat} (R : Nat → List Value → Prop) (hS : S news) (h0 : R 0 [])
    (turn : ∀ (i : Nat) v I oI C oC D ys m₂ h tk, i < n → R i ys → P i v → NsObj oC m₂ → m₂ x = some v → Fr h₀ L h m → News h₀ L h ((I, oI) :: (C, oC) :: (D, lst ys) :: news) → Off3 I C D news →
      wpAny (model prog w) A (isTrue ct (compEnvC scope cl C env) (eval ct (compEnvC scope cl C env))) (fun ok s' => Hold (if ok = true then
          wpAny (model prog w) A (eval elt (compEnvC scope cl C env)) (fun y s' => Hold (∃ h' tk', s' = { s with heap := h', toks := tk' } ∧ Fr h₀ L h' m ∧ News h₀ L h' ((I, oI) :: (C, oC) :: (D, lst ys) :: news) ∧ R (i + 1) (ys ++ [y]))) (fun _ _ => False) s'
        else ∃ h' tk', s' = { s with heap := h', toks := tk' } ∧ Fr h₀ L h' m ∧ News h₀ L h' ((I, oI) :: (C, oC) :: (D, lst ys) :: news) ∧ R (i + 1) ys)) (fun _ _ => False) { s with heap := h, toks := tk })
    (fin : ∀ ys, R n ys → Fin ys news) :
    LCt.CompRestT prog w A h₀ L m env ct elt x scope cl s S P Fin n 0 [] news := by
  refine CompRestT.inv (n := n) (fun i ys nw => nw = news ∧ R i ys) ?_ (fun ys nw h => h.1 ▸ fin ys h.2) n 0 (by omega) ⟨rfl, h0⟩
  rintro i ys nw v I oI C oC D m₂ h tk E' hi ⟨rfl, hR⟩ hP hC hm F N off ne
  refine wpAny_mono (turn i v I oI C oC D ys m₂ h tk hi hR hP hC hm F N off) (fun ok s' q => ?_) fun _ _ q => q.elim
  have q := q.it
  cases ok with
  | true =>
    simp only [if_true] at q ⊢
    refine wpAny_mono q (fun y s'' q => ?_) fun _ _ q => q.elim
    obtain ⟨h', tk', rfl, F', N', hR'⟩ := q.it
    exact ⟨h', tk', nw, rfl, F', N', off, hS, rfl, hR'⟩
  | false =>
    simp only [Bool.false_eq_true, if_false] at q ⊢
    obtain ⟨h', tk', rfl, F', N', hR'⟩ := q
    exact ⟨h', tk', nw, rfl, F', N', off, hS, rfl, hR'⟩
theorem assign_rangeT {ct elt iter : Expr} {x y : Str} {px py : Pos} {scope : Scope} {cl : List (Str × Addr)} {pos spos : Pos} {Q : Flow → Shared → Prop} (F₀ : Fr h₀ L s.heap m) (hLe : env.locals = L)
    (hsw : swapsWith (.ListComp elt [⟨.Name x px, iter, [ct], 0⟩] scope pos) (some (.Name y py)) spos.line env = pure true)
    (hclos : closureFor scope env = pure cl) (hcell : ∀ z ∈ scope.names, z.2 ≠ .cell) (hkind : scope.kind = .function)
    (hnames : ∀ z ∈ scope.names, z.2 = .local → scope.names.lookup z.1 = some .local) (hx : scope.names.lookup x = some .local)
    (hy : env.kindOf y = some .local) (hp : (env.scope.kind == .class || (env.scope.kind == .module && env.locals != env.globals)) = false)
    (h : wpAny (model prog w) A (eval iter env) (fun xv s₁ => Hold (∃ r a b c t u v n news, xv = .ref r ∧ A.handled = none ∧ Fr h₀ L s₁.heap m ∧ News h₀ L s₁.heap news ∧ IsRange s₁.heap r a b c t u v ∧ Builtin.Range.small a b c = true ∧ Builtin.Range.rangeSize a b c = ((n : Nat) : Int) ∧ n ≤ sizeLine ∧
      ∀ g, LCt.CompRestT prog w A h₀ L m env ct elt x scope cl { s₁ with heap := g } (fun _ => True) (fun i v => ∃ t, v = .int (a + (i : Int) * c) t) (FinA h₀ L m { s₁ with heap := g } y Q) n 0 [] news)) E s)
    (hs : ∀ x, foldedSetIterable iter env x = pure x) :
    wpAny (model prog w) A (exec (.Assign [.Name y py] (.ListComp elt [⟨.Name x px, iter, [ct], 0⟩] scope pos) spos) env) Q E s := by
  subst hLe
  rw [exec_Assign_Name_used _ _ _ _ hsw]
  refine wpAny_bind (wpAny_standAt (wpAny_bind ?_))
  show wpAny _ A (do let _ ← comprehension (.ListComp elt [⟨.Name x px, iter, [ct], 0⟩] scope pos) scope env _ (newList []) false (eval iter env) (some (assign (.Name y py) env))) _ _ s
  refine wpAny_bind (wpAny_mono (wpAny_comprehension_free (use := some (assign (.Name y py) env)) (Q := fun _ s' => Q .next s') rfl hs hclos hkind hnames
    (wpAny_mono h (fun xv s₁ h₁ => ?_) fun _ _ e => e)) (fun _ s' hq => wpAny_pure (wpAny_pure hq)) fun _ _ e => e)
  obtain ⟨r, a, b, c, t, u, v, n, news, rfl, hh, F, N, hr, hsm, hn, hsz, R⟩ := h₁.it
  refine wpAny_pyIter_range hr hsm ?_
  refine LCt.block_T (Walks.range hh s₁.heap.objs.size a c n) hsz (fun i h st => ⟨_, st⟩) (fun i h h' o nw st e e' k _ _ => by
    have st' : h.get? _ = some _ := st
    show h'.get? _ = some _
    rw [e', ← e]; exact st') hcell hkind hx (by show IsRangeIter _ _ _ _ _; rw [hn]; simpa using Heap.get?_push_size _ rfl) (fun b hb => ?_)
    (F.keeps fun _ _ e => Heap.get?_push_of_some _ e) (N.grown fun _ _ e => Heap.get?_push_of_some _ e) (Nat.ne_of_lt F.ns.lt) (next_is_new F) (fun p hp => Nat.ne_of_lt (Heap.lt_size (N p hp).1)) trivial (R _) ?_
  · rw [List.mem_singleton.mp hb]
    show s₁.heap.objs.size < (s₁.heap.push _).objs.size
    rw [Heap.size_push]; exact Nat.lt_succ_self _
  · intro D C h' tk m' ys news' F' N' o1 hn hC₀ hD₀ hCL hDL hCD offC fin
    show wpAny _ A (assign (.Name y py) env (.ref D)) _ _ _
    refine wpAny_assign_Name (wpAny_storeName_local hy F'.ns (fun h₂ hn₂ hs₂ => ?_) hp)
    have hL₀ : h₀.get? env.locals = none := Heap.get?_none_of_le F'.above
    have F₂ : Fr h₀ env.locals h₂ (fun z => if z = y then some (.ref D) else m z) := ⟨hn₂, fun b o e => hs₂.extBut b o (fun q => by rw [q, hL₀] at e; cases e) (F'.keep b o e), F'.above⟩
    refine ⟨m', hn.sameBut hs₂ hCL, fun h'' hs'' => fin D h'' _ (F₂.change hs'' hCL hC₀) (fun p hp => ?_) o1⟩
    have z : h₂.get? p.1 = some p.2 := hs₂.extBut _ _ (N' p hp).2.1 (N' p hp).1
    refine ⟨hs''.extBut _ _ ?_ z, (N' p hp).2⟩
    rcases List.mem_cons.mp hp with rfl | hp
    · exact Ne.symm hCD
    · exact offC p hp
theorem assign_list {elt iter : Expr} {x y : Str} {px py : Pos} {scope : Scope} {cl : List (Str × Addr)} {pos spos : Pos} {Q : Flow → Shared → Prop} (F₀ : Fr h₀ L s.heap m) (hLe : env.locals = L)
    (hsw : swapsWith (.ListComp elt [⟨.Name x px, iter, [], 0⟩] scope pos) (some (.Name y py)) spos.line env = pure true)
    (hclos : closureFor scope env = pure cl) (hcell : ∀ z ∈ scope.names, z.2 ≠ .cell) (hkind : scope.kind = .function)
    (hnames : ∀ z ∈ scope.names, z.2 = .local → scope.names.lookup z.1 = some .local) (hx : scope.names.lookup x = some .local)
    (hy : env.kindOf y = some .local) (hp : (env.scope.kind == .class || (env.scope.kind == .module && env.locals != env.globals)) = false)
    (h : wpAny (model prog w) A (eval iter env) (fun xv s₁ => Hold (∃ ax its news, xv = .ref ax ∧ A.handled = none ∧ Fr h₀ L s₁.heap m ∧ News h₀ L s₁.heap news ∧ SrcAt h₀ ax its news ∧ its.size ≤ 1000 ∧
      ∀ g, CompRest prog w A h₀ L m env elt x scope cl { s₁ with heap := g } (SrcAt h₀ ax its) (fun i v => its[i]? = some v) (FinA h₀ L m { s₁ with heap := g } y Q) its.size 0 [] news)) E s)
    (hs : ∀ x, foldedSetIterable iter env x = pure x) :
    wpAny (model prog w) A (exec (.Assign [.Name y py] (.ListComp elt [⟨.Name x px, iter, [], 0⟩] scope pos) spos) env) Q E s := by
  refine Assign_ListComp_U F₀ hLe hsw hclos hcell hkind hnames hx hy hp (wpAny_mono h (fun xv s₁ q => ?_) fun _ _ e => e) hs
  obtain ⟨ax, its, news, rfl, hh, F, N, S, hsz, R⟩ := q.it
  exact .inl ⟨ax, its, news, rfl, hh, F, N, S, by rw [sizeLine_eq]; omega, fun _ ⟨g, e⟩ => e ▸ R g⟩
theorem assign_listT {ct elt iter : Expr} {x y : Str} {px py : Pos} {scope : Scope} {cl : List (Str × Addr)} {pos spos : Pos} {Q : Flow → Shared → Prop} (F₀ : Fr h₀ L s.heap m) (hLe : env.locals = L)
    (hsw : swapsWith (.ListComp elt [⟨.Name x px, iter, [ct], 0⟩] scope pos) (some (.Name y py)) spos.line env = pure true)
    (hclos : closureFor scope env = pure cl) (hcell : ∀ z ∈ scope.names, z.2 ≠ .cell) (hkind : scope.kind = .function)
    (hnames : ∀ z ∈ scope.names, z.2 = .local → scope.names.lookup z.1 = some .local) (hx : scope.names.lookup x = some .local)
    (hy : env.kindOf y = some .local) (hp : (env.scope.kind == .class || (env.scope.kind == .module && env.locals != env.globals)) = false)
    (h : wpAny (model prog w) A (eval iter env) (fun xv s₁ => Hold (∃ ax its news, xv = .ref ax ∧ A.handled = none ∧ Fr h₀ L s₁.heap m ∧ News h₀ L s₁.heap news ∧ SrcAt h₀ ax its news ∧ its.size ≤ 1000 ∧
      ∀ g, LCt.CompRestT prog w A h₀ L m env ct elt x scope cl { s₁ with heap := g } (SrcAt h₀ ax its) (fun i v => its[i]? = some v) (FinA h₀ L m { s₁ with heap := g } y Q) its.size 0 [] news)) E s)
    (hs : ∀ x, foldedSetIterable iter env x = pure x) :
    wpAny (model prog w) A (exec (.Assign [.Name y py] (.ListComp elt [⟨.Name x px, iter, [ct], 0⟩] scope pos) spos) env) Q E s := by
  refine LCt.Assign_ListComp_T F₀ hLe hsw hclos hcell hkind hnames hx hy hp (wpAny_mono h (fun xv s₁ q => ?_) fun _ _ e => e) hs
  obtain ⟨ax, its, news, rfl, hh, F, N, S, hsz, R⟩ := q.it
  exact .inl ⟨ax, its, news, rfl, hh, F, N, S, by rw [sizeLine_eq]; omega, fun _ ⟨g, e⟩ => e ▸ R g⟩
theorem eval_listT {ct elt iter : Expr} {x : Str} {px : Pos} {scope : Scope} {cl : List (Str × Addr)} {pos : Pos} {Q : Value → Shared → Prop} (F₀ : Fr h₀ L s.heap m)
    (hclos : closureFor scope env = pure cl) (hcell : ∀ z ∈ scope.names, z.2 ≠ .cell) (hkind : scope.kind = .function)
    (hnames : ∀ z ∈ scope.names, z.2 = .local → scope.names.lookup z.1 = some .local) (hx : scope.names.lookup x = some .local)
    (h : wpAny (model prog w) A (eval iter env) (fun xv s₁ => Hold (∃ ax its news, xv = .ref ax ∧ A.handled = none ∧ Fr h₀ L s₁.heap m ∧ News h₀ L s₁.heap news ∧ SrcAt h₀ ax its news ∧ its.size ≤ 1000 ∧
      ∀ g, LCt.CompRestT prog w A h₀ L m env ct elt x scope cl { s₁ with heap := g } (SrcAt h₀ ax its) (fun i v => its[i]? = some v) (FinE h₀ L m { s₁ with heap := g } Q) its.size 0 [] news)) E s)
    (hs : ∀ x, foldedSetIterable iter env x = pure x) :
    wpAny (model prog w) A (eval (.ListComp elt [⟨.Name x px, iter, [ct], 0⟩] scope pos) env) Q E s := by
  refine LCt.ListComp_T F₀ hclos hcell hkind hnames hx (wpAny_mono h (fun xv s₁ q => ?_) fun _ _ e => e) hs
  obtain ⟨ax, its, news, rfl, hh, F, N, S, hsz, R⟩ := q.it
  exact .inl ⟨ax, its, news, rfl, hh, F, N, S, by rw [sizeLine_eq]; omega, fun _ ⟨g, e⟩ => e ▸ R g⟩
end
end Mine
end

section
namespace Mine
set_option maxRecDepth 100000
set_option maxHeartbeats 1000000
set_option linter.all false
section
variable {prog : Program} {w : World} {A : Around} {E : Value → Shared → Prop} {s : Shared} {Q : Value → Shared → Prop}
theorem len_vals {h₀ : Heap} {L D : Addr} {m : Str → Option Value} {vs : List Value} (F : Fr h₀ L s.heap m) (hl : h₀.IsList D vs.toArray) (hn : vs.length ≤ 1000) (h : ∀ t tk, Q (.int vs.length t) { s with toks := tk }) : wpAny (model prog w) A (call (.builtin "len") [.ref D]) Q E s := by
  refine PyProof.Rows.len_list (hl.at fun o e => F.keep D o e) (by simp; omega) ?_
  have := h (s.toks + 1) (s.toks + 1 + 1)
  simpa using this
theorem item_vals {h₀ : Heap} {L D : Addr} {m : Str → Option Value} {vs : List Value} {value slice : Expr} {k : Nat} {t : Tok} (F : Fr h₀ L s.heap m) (hl : h₀.IsList D vs.toArray) (hn : vs.length ≤ 1000) (hk : k < vs.length) (h : ∀ v, vs[k]? = some v → Q v s)
    (hs : subscripted slice false (.ref D) (.int k t) = operate [.ref D, .int k t] (getItem (.ref D) (.int k t)) := by rfl) : wpAny (model prog w) A (subscriptTail value slice (.ref D) (.int k t)) Q E s := by
  have hl' := hl.at fun o e => F.keep D o e
  exact tail_any hl'.typeIs slot_list_getitem.lookup (wpAny_getItem_list hl' (by omega) (by omega) (x := vs[k]) (by simp [hk]) (h _ (List.getElem?_eq_getElem hk))) hs
theorem PVs.drop {h : Heap} {hs : Str} {vs : List Value} {ns : List Int} (x : PVs h hs vs ns) : ∀ k : Nat, PVs h hs (vs.drop k) (ns.drop k) := by
  induction x with
  | nil => intro k; simp; exact .nil
  | cons p r ih =>
    intro k
    cases k with
    | zero => exact .cons p r
    | succ k => simpa using ih k
theorem PVs.take {h : Heap} {hs : Str} {vs : List Value} {ns : List Int} (x : PVs h hs vs ns) : ∀ k : Nat, PVs h hs (vs.take k) (ns.take k) := by
  induction x with
  | nil => intro k; simp; exact .nil
  | cons p r ih =>
    intro k
    cases k with
    | zero => exact .nil
    | succ k => simpa using PVs.cons p (ih k)
theorem size_down (n : Nat) : Builtin.Range.rangeSize ((n : Int) - 1) (-1) (-1) = ((n : Nat) : Int) := by
  simp [Builtin.Range.rangeSize]; omega
theorem miss_step {ys rx : List Int} {i : Nat} {x : Int} (h : rx[i]? = some x) : missF ys (rx.take i) (rx.drop i) = if (rx.take (i + 1)).count x > ys.count x then x :: missF ys (rx.take (i + 1)) (rx.drop (i + 1)) else missF ys (rx.take (i + 1)) (rx.drop (i + 1)) := by
  have e : rx.drop i = x :: rx.drop (i + 1) := by
    obtain ⟨hi, e⟩ := List.getElem?_eq_some_iff.mp h
    rw [List.drop_eq_getElem_cons hi, e]
  have e2 : rx.take (i + 1) = rx.take i ++ [x] := by rw [List.take_succ, h]; rfl
  rw [e, e2]; rfl
theorem left_step {xs ys : List Int} {i : Nat} {x : Int} (h : ys[i]? = some x) : leftF xs (ys.take i) (ys.drop i) = if (ys.take (i + 1)).count x > xs.count x then x :: leftF xs (ys.take (i + 1)) (ys.drop (i + 1)) else leftF xs (ys.take (i + 1)) (ys.drop (i + 1)) := by
  have e : ys.drop i = x :: ys.drop (i + 1) := by
    obtain ⟨hi, e⟩ := List.getElem?_eq_some_iff.mp h
    rw [List.drop_eq_getElem_cons hi, e]
  have e2 : ys.take (i + 1) = ys.take i ++ [x] := by rw [List.take_succ, h]; rfl
  rw [e, e2]; rfl
theorem rev_count {xs : List Int} {i k : Nat} {x : Int} (hk : xs.length - 1 - i = k) (hi : i < xs.length) (h : xs[k]? = some x) : xs.reverse[i]? = some x ∧ (xs.reverse.take (i + 1)).count x = (xs.drop k).count x := by
  constructor
  · rw [List.getElem?_reverse hi, hk, h]
  · have : xs.reverse.take (i + 1) = (xs.drop k).reverse := by
      rw [List.take_reverse]
      congr 2
      omega
    rw [this, List.count_reverse]
theorem meth_ground {h₀ : Heap} {L D : Addr} {m : Str → Option Value} {vs : List Value} {pl : Sem Bool} {R : Value × List Value → Shared → Prop} {z : Nat} (F : Fr h₀ L s.heap m) (hl : h₀.get? D = some (lobj vs z)) (h : R (.builtin "list.count", [.ref D]) s) : wpAny (model prog w) A (getMethod (.ref D) (Str.ofString "count") pl) R E s := by
  have hl' := F.keep _ _ hl
  exact getMethod_list_of PySem.F.slot_list_count PySem.F.type_list_count ⟨_, hl', rfl, _, rfl⟩ ⟨_, hl', rfl⟩ h
theorem pick_upto (vs : List Value) (b : Nat) (hb : b ≤ vs.length) : slicePick vs.toArray none (some (b : Int)) none = (vs.take b).toArray := slicePick_upto' _ _
theorem countP_hit {h : Heap} {hs : Str} {x : Int} {ps : List Value} {y1 : List Int} (p : PVs h hs ps y1) : ps.countP (hitF h hs x) = y1.count x := by
  induction p with
  | nil => rfl
  | cons q _ ih =>
    rw [List.countP_cons, List.count_cons, ih, hit_of q]
theorem count_vals {D : Addr} {hs : Str} {ps : List Value} {y1 : List Int} {ul : Value} {x : Int} (hl : s.heap.IsList D ps.toArray) (p : PVs s.heap hs ps y1) (pl : PV s.heap hs ul x) (hok : PyData.strOk hs = true) (hu : A.units + 65 < cLine)
    (h : ∀ t tk, Q (.int ((y1.count x : Nat) : Int) t) { s with toks := tk }) : wpAny (model prog w) A (call (.builtin "list.count") [.ref D, ul]) Q E s := by
  obtain ⟨⟨c, d, dt, sl⟩, ho, hc, n, hd⟩ := hl
  simp only at hc hd
  subst hc hd
  refine call_meets PySem.F.slot_list_count ⟨_, ho, rfl⟩ PySem.F.entry_list_count (PySem.F.args_list_count_2 _ _) (SeqAt.list_countAt D ps.toArray n d sl ul (hitF s.heap hs x)) ⟨ho, hit_eqs p pl hok hu, ?_⟩
  have := h s.toks (s.toks + 1)
  rw [← countP_hit p] at this
  exact this
end
noncomputable def lost_spec.Stm (w : World) (A : Around) (E : Value → Shared → Prop) (s : Shared) (base : Heap) (mg : Str → Option Value) (mb : Str → Option Value) (mean : ExcName → Option Value) (Q : Value → Shared → Prop) (outer : List Env) (la : Addr) (sa : Addr) (hs : Str) (vs : List Value) (ws : List Value) (xs : List Int) (ys : List Int) (z1 : Nat) (z2 : Nat) : Prop := ∀  (B : Below A base outer s.heap) (X : (Mine.KC w.params).In s.heap) (T : Top EMP LS mean mg mb s.heap) (hh : A.handled = none) (hlo : s.heap.get? la = some (lobj vs z1)) (hso : s.heap.get? sa = some (lobj ws z2)) (hv : PVs s.heap hs vs xs) (hw : PVs s.heap hs ws ys) (hok : PyData.strOk hs = true) (hn : vs.length ≤ 100) (hm : ws.length ≤ 100) (hd : A.depth + 2 < recursionLimit) (hu : A.units + 200 < cLine) (ret : ∀ v h' tk, Kp s.heap h' → (∃ as, Reads h' v (.tuple [.list ((missF ys [] xs.reverse).map (pd hs)), .list ((leftF xs [] ys).map (pd hs))]) as) → Q v { s with heap := h', toks := tk }), wpAny (model PROG w) A (call (.ref 183) [.ref la, .ref sa]) Q E s
noncomputable def lost_spec.cst : (World) × (Around) × (Value → Shared → Prop) × (Shared) × (Heap) × (Str → Option Value) × (Str → Option Value) × (ExcName → Option Value) × (Value → Shared → Prop) × (List Env) × (Addr) × (Addr) × (Str) × (List Value) × (List Value) × (List Int) × (List Int) × (Nat) × (Nat) := eps (aWorld 0, {}, fun _ _ => True, {}, {}, fun _ => none, fun _ => none, fun _ => none, fun _ _ => True, [], 0, 0, Str.empty, [], [], [], [], 0, 0) (fun q => lost_spec.Stm q.1 q.2.1 q.2.2.1 q.2.2.2.1 q.2.2.2.2.1 q.2.2.2.2.2.1 q.2.2.2.2.2.2.1 q.2.2.2.2.2.2.2.1 q.2.2.2.2.2.2.2.2.1 q.2.2.2.2.2.2.2.2.2.1 q.2.2.2.2.2.2.2.2.2.2.1 q.2.2.2.2.2.2.2.2.2.2.2.1 q.2.2.2.2.2.2.2.2.2.2.2.2.1 q.2.2.2.2.2.2.2.2.2.2.2.2.2.1 q.2.2.2.2.2.2.2.2.2.2.2.2.2.2.1 q.2.2.2.2.2.2.2.2.2.2.2.2.2.2.2.1 q.2.2.2.2.2.2.2.2.2.2.2.2.2.2.2.2.1 q.2.2.2.2.2.2.2.2.2.2.2.2.2.2.2.2.2.1 q.2.2.2.2.2.2.2.2.2.2.2.2.2.2.2.2.2.2)
namespace lost_spec
noncomputable def A : Around := cst.2.1
noncomputable def s : Shared := cst.2.2.2.1
noncomputable def la : Addr := cst.2.2.2.2.2.2.2.2.2.2.1
noncomputable def sa : Addr := cst.2.2.2.2.2.2.2.2.2.2.2.1
noncomputable def hs : Str := cst.2.2.2.2.2.2.2.2.2.2.2.2.1
noncomputable def vs : List Value := cst.2.2.2.2.2.2.2.2.2.2.2.2.2.1
noncomputable def ws : List Value := cst.2.2.2.2.2.2.2.2.2.2.2.2.2.2.1
noncomputable def xs : List Int := cst.2.2.2.2.2.2.2.2.2.2.2.2.2.2.2.1
noncomputable def ys : List Int := cst.2.2.2.2.2.2.2.2.2.2.2.2.2.2.2.2.1
theorem it : Stm cst.1 A cst.2.2.1 s cst.2.2.2.2.1 cst.2.2.2.2.2.1 cst.2.2.2.2.2.2.1 cst.2.2.2.2.2.2.2.1 cst.2.2.2.2.2.2.2.2.1 cst.2.2.2.2.2.2.2.2.2.1 la sa hs vs ws xs ys cst.2.2.2.2.2.2.2.2.2.2.2.2.2.2.2.2.2.1 cst.2.2.2.2.2.2.2.2.2.2.2.2.2.2.2.2.2.2 := by
  intro  B X T hh hlo hso hv hw hok hn hm hd hu ret
  have hl : s.heap.IsList la vs.toArray := ⟨_, hlo, rfl, _, rfl⟩
  have hs' : s.heap.IsList sa ws.toArray := ⟨_, hso, rfl, _, rfl⟩
  have hfill : (fun (_ : OpenLaw) (_ : Params → Frag) => True) PySem.Challenge.rw_nq0040_01 Mine.KC := by (k_fill; trivial)
  clear hfill
  w_top off
  k_dflt (refine' enterPX (binds := [(Str.ofString "longs", .ref la), (Str.ofString "shorts", .ref sa)]) ?k2 ?k3 ?k6 ?k7 ?k8 ?k9 ?kB ?kN ?_ ?c2 ?c3 ?c4; (case k2 => assumption); (case k3 => assumption); (case k6 => k_is); (case k7 => k_is); (case k8 => omega); (case k9 => first | exact BindsTo.of_eq rfl | exact binds_K (by assumption) rfl (by k_is) rfl rfl rfl); (case kN => decide +kernel); (case kB => exact kindsX rfl); (case c2 => exact rfl); (case c3 => exact rfl); (case c4 => exact rfl); k_whole)
  intro L' h' tk' cells' F' N' Y'
  k_cells Y'
  (try simp only [List.cons_append, List.nil_append] at N')
  try dsimp only
  try k_fold
  repeat' (first | ((with_reducible show wpAny _ _ (call (Value.builtin "len") _ _) _ _ _); refine len_vals (by assumption) (by assumption) (by omega) ?_; intro _ _) | ((with_reducible show wpAny _ _ (exec (PySem.Stmt.Assign (_ :: _) (PySem.Expr.ListComp _ _ _ _) _) _) _ _ _); refine Hold.it ?_) | ((with_reducible show wpAny _ _ (call (Value.builtin "list.count") _ _) _ _ _); refine Hold.it ?_) | ((with_reducible show wpAny _ _ (getMethod (Value.ref _) _ _) _ _ _); refine meth_ground (by assumption) (by assumption) ?_) | ((with_reducible show wpAny _ _ (subscriptTail _ _ _ _) _ _ _); refine' item_vals ?ia ?ib ?ic ?id ?_ ?ie; (case ie => rfl); (case ia => assumption); (case ib => assumption); (case ic => omega); (case id => omega); intro _ _) | walk_at "m1")
  refine ⟨?_⟩
  rename_i N1
  refine' assign_rangeT (h₀ := s.heap) (L := L') F' rfl ?aa ?ab ?ac ?ad ?ae ?af ?ag ?ah ?ai ?aj
  case aa => with_unfolding_all rfl
  case ab => with_unfolding_all rfl
  case ac => decide
  case ad => rfl
  case ae => decide
  case af => rfl
  case ag => rfl
  case ah => rfl
  case aj => intro _; rfl
  case ai =>
    repeat' (first | ((with_reducible show wpAny _ _ (call (Value.builtin "len") _ _) _ _ _); refine len_vals (by assumption) (by assumption) (by omega) ?_; intro _ _) | ((with_reducible show wpAny _ _ (exec (PySem.Stmt.Assign (_ :: _) (PySem.Expr.ListComp _ _ _ _) _) _) _ _ _); refine Hold.it ?_) | ((with_reducible show wpAny _ _ (call (Value.builtin "list.count") _ _) _ _ _); refine Hold.it ?_) | ((with_reducible show wpAny _ _ (getMethod (Value.ref _) _ _) _ _ _); refine meth_ground (by assumption) (by assumption) ?_) | ((with_reducible show wpAny _ _ (subscriptTail _ _ _ _) _ _ _); refine' item_vals ?ia ?ib ?ic ?id ?_ ?ie; (case ie => rfl); (case ia => assumption); (case ib => assumption); (case ic => omega); (case id => omega); intro _ _) | walk_at "m1")
    rename_i h2 tk2 t2 u2 v2 hr2 F2 N2 k2
    refine ⟨_, _, _, _, _, _, _, vs.length, _, rfl, hh, F2, N2, hr2, small_down (by omega) (by omega) (by omega) (by omega), ?sz, by rw [sizeLine_eq]; omega, fun g => rest_newsT (fun i us => ∃ ks, PVs s.heap hs us ks ∧ missF ys [] xs.reverse = ks ++ missF ys (xs.reverse.take i) (xs.reverse.drop i)) trivial ⟨[], .nil, rfl⟩ ?tu ?fi⟩
    case sz => exact size_down vs.length
    case tu =>
      rintro i v I oI C oC D us m₂ h3 tk3 hi ⟨ks, hks, hms⟩ ⟨tv, rfl⟩ hC hm F3 N3 off
      have hkk : (vs.length : Int) - 1 + (i : Int) * -1 = ((vs.length - 1 - i : Nat) : Int) := by omega
      rw [hkk] at hm
      generalize hk : vs.length - 1 - i = k at *
      clear F2 N2
      have hkl : k < vs.length := by omega
      have hxl : xs.length = vs.length := hv.length.symm
      repeat' (first | ((with_reducible show wpAny _ _ (call (Value.builtin "len") _ _) _ _ _); refine len_vals (by assumption) (by assumption) (by omega) ?_; intro _ _) | ((with_reducible show wpAny _ _ (exec (PySem.Stmt.Assign (_ :: _) (PySem.Expr.ListComp _ _ _ _) _) _) _ _ _); refine Hold.it ?_) | ((with_reducible show wpAny _ _ (call (Value.builtin "list.count") _ _) _ _ _); refine Hold.it ?_) | ((with_reducible show wpAny _ _ (getMethod (Value.ref _) _ _) _ _ _); refine meth_ground (by assumption) (by assumption) ?_) | ((with_reducible show wpAny _ _ (subscriptTail _ _ _ _) _ _ _); refine' item_vals ?ia ?ib ?ic ?id ?_ ?ie; (case ie => rfl); (case ia => assumption); (case ib => assumption); (case ic => omega); (case id => omega); intro _ _) | walk_at "m1")
      refine ⟨?_⟩
      rename_i h4 F4 N4 y hy
      obtain ⟨x, hx, px⟩ := hv.get k y hy
      obtain ⟨hrx, hcnt⟩ := rev_count (xs := xs) (i := i) (k := k) (by omega) (by omega) hx
      have hsl : h4.IsList _ (vs.drop k).toArray := ⟨_, N4.get (.head _), rfl, _, by rw [slicePick_from _ _ (by simp; omega)]⟩
      have k4 : Kp s.heap h4 := F4.keep
      refine count_vals hsl ((hv.keeps k4).drop k) (px.keeps k4) hok (by show A.units + 3 + 65 < cLine; omega) ?_
      intro tc tkc
      have hs4 : h4.IsList sa ws.toArray := hs'.at fun o e => k4 sa o e
      repeat' (first | ((with_reducible show wpAny _ _ (call (Value.builtin "len") _ _) _ _ _); refine len_vals (by assumption) (by assumption) (by omega) ?_; intro _ _) | ((with_reducible show wpAny _ _ (exec (PySem.Stmt.Assign (_ :: _) (PySem.Expr.ListComp _ _ _ _) _) _) _ _ _); refine Hold.it ?_) | ((with_reducible show wpAny _ _ (call (Value.builtin "list.count") _ _) _ _ _); refine Hold.it ?_) | ((with_reducible show wpAny _ _ (getMethod (Value.ref _) _ _) _ _ _); refine meth_ground (by assumption) (by assumption) ?_) | ((with_reducible show wpAny _ _ (subscriptTail _ _ _ _) _ _ _); refine' item_vals ?ia ?ib ?ic ?id ?_ ?ie; (case ie => rfl); (case ia => assumption); (case ib => assumption); (case ic => omega); (case id => omega); intro _ _) | walk_at "m1")
      refine ⟨?_⟩
      rename_i y2 hy2
      obtain rfl : y = y2 := by rw [hy] at hy2; cases hy2; rfl
      refine count_vals hs4 (hw.keeps k4) (px.keeps k4) hok (by show A.units + 3 + 65 < cLine; omega) ?_
      intro td tkd
      have hstep := miss_step (ys := ys) hrx
      rw [hcnt] at hstep
      repeat' (first | ((with_reducible show wpAny _ _ (call (Value.builtin "len") _ _) _ _ _); refine len_vals (by assumption) (by assumption) (by omega) ?_; intro _ _) | ((with_reducible show wpAny _ _ (exec (PySem.Stmt.Assign (_ :: _) (PySem.Expr.ListComp _ _ _ _) _) _) _ _ _); refine Hold.it ?_) | ((with_reducible show wpAny _ _ (call (Value.builtin "list.count") _ _) _ _ _); refine Hold.it ?_) | ((with_reducible show wpAny _ _ (getMethod (Value.ref _) _ _) _ _ _); refine meth_ground (by assumption) (by assumption) ?_) | ((with_reducible show wpAny _ _ (subscriptTail _ _ _ _) _ _ _); refine' item_vals ?ia ?ib ?ic ?id ?_ ?ie; (case ie => rfl); (case ia => assumption); (case ib => assumption); (case ic => omega); (case id => omega); intro _ _) | walk_at "m1")
      refine ⟨?_⟩
      by_cases hgt : ys.count x < (xs.drop k).count x
      · rw [if_pos hgt] at hstep
        rw [if_pos (by simpa using hgt)]
        repeat' (first | ((with_reducible show wpAny _ _ (call (Value.builtin "len") _ _) _ _ _); refine len_vals (by assumption) (by assumption) (by omega) ?_; intro _ _) | ((with_reducible show wpAny _ _ (exec (PySem.Stmt.Assign (_ :: _) (PySem.Expr.ListComp _ _ _ _) _) _) _ _ _); refine Hold.it ?_) | ((with_reducible show wpAny _ _ (call (Value.builtin "list.count") _ _) _ _ _); refine Hold.it ?_) | ((with_reducible show wpAny _ _ (getMethod (Value.ref _) _ _) _ _ _); refine meth_ground (by assumption) (by assumption) ?_) | ((with_reducible show wpAny _ _ (subscriptTail _ _ _ _) _ _ _); refine' item_vals ?ia ?ib ?ic ?id ?_ ?ie; (case ie => rfl); (case ia => assumption); (case ib => assumption); (case ic => omega); (case id => omega); intro _ _) | walk_at "m1")
        rename_i y3 hy3
        obtain rfl : y = y3 := by rw [hy] at hy3; cases hy3; rfl
        refine ⟨_, _, rfl, F4, fun p hp => N4 p (.tail _ hp), ks ++ [x], hks.append (.cons px .nil), ?_⟩
        rw [hms, hstep]; simp
      · rw [if_neg hgt] at hstep
        rw [if_neg (by simpa using hgt)]
        refine ⟨_, _, rfl, F4, fun p hp => N4 p (.tail _ hp), ks, hks, ?_⟩
        rw [hms, hstep]
    case fi =>
      rintro us ⟨ks, hks, hms⟩
      rw [List.drop_of_length_le (by simp; have := hv.length; omega)] at hms
      have hms' : missF ys [] xs.reverse = ks := by rw [hms]; simp [missF]
      rw [hms'] at ret
      unfold LCg.FinA
      intro D3 h3 tk3 F3 N3 _
      clear hms hms'
      repeat' (first | ((with_reducible show wpAny _ _ (call (Value.builtin "len") _ _) _ _ _); refine len_vals (by assumption) (by assumption) (by omega) ?_; intro _ _) | ((with_reducible show wpAny _ _ (exec (PySem.Stmt.Assign (_ :: _) (PySem.Expr.ListComp _ _ _ _) _) _) _ _ _); refine Hold.it ?_) | ((with_reducible show wpAny _ _ (call (Value.builtin "list.count") _ _) _ _ _); refine Hold.it ?_) | ((with_reducible show wpAny _ _ (getMethod (Value.ref _) _ _) _ _ _); refine meth_ground (by assumption) (by assumption) ?_) | ((with_reducible show wpAny _ _ (subscriptTail _ _ _ _) _ _ _); refine' item_vals ?ia ?ib ?ic ?id ?_ ?ie; (case ie => rfl); (case ia => assumption); (case ib => assumption); (case ic => omega); (case id => omega); intro _ _) | walk_at "m1")
      refine ⟨?_⟩
      refine' assign_rangeT (h₀ := s.heap) (L := L') F3 rfl ?ba ?bb ?bc ?bd ?be ?bf ?bg ?bh ?bi ?bj
      case ba => with_unfolding_all rfl
      case bb => with_unfolding_all rfl
      case bc => decide
      case bd => rfl
      case be => decide
      case bf => rfl
      case bg => rfl
      case bh => rfl
      case bj => intro _; rfl
      case bi =>
        repeat' (first | ((with_reducible show wpAny _ _ (call (Value.builtin "len") _ _) _ _ _); refine len_vals (by assumption) (by assumption) (by omega) ?_; intro _ _) | ((with_reducible show wpAny _ _ (exec (PySem.Stmt.Assign (_ :: _) (PySem.Expr.ListComp _ _ _ _) _) _) _ _ _); refine Hold.it ?_) | ((with_reducible show wpAny _ _ (call (Value.builtin "list.count") _ _) _ _ _); refine Hold.it ?_) | ((with_reducible show wpAny _ _ (getMethod (Value.ref _) _ _) _ _ _); refine meth_ground (by assumption) (by assumption) ?_) | ((with_reducible show wpAny _ _ (subscriptTail _ _ _ _) _ _ _); refine' item_vals ?ia ?ib ?ic ?id ?_ ?ie; (case ie => rfl); (case ia => assumption); (case ib => assumption); (case ic => omega); (case id => omega); intro _ _) | walk_at "m1")
        rename_i h5 tk5 t5 u5 v5 hr5 F5 N5 k5
        refine ⟨_, _, _, _, _, _, _, ws.length, _, rfl, hh, F5, N5, hr5, small_upto (by omega), size_upto _, by rw [sizeLine_eq]; omega, fun g5 => rest_newsT (fun i us => ∃ ks2, PVs s.heap hs us ks2 ∧ leftF xs [] ys = ks2 ++ leftF xs (ys.take i) (ys.drop i)) trivial ⟨[], .nil, rfl⟩ ?tu2 ?fi2⟩
        case tu2 =>
          rintro i v I oI C oC D us m₂ h6 tk6 hi ⟨ks2, hks2, hms2⟩ ⟨tv, rfl⟩ hC hm F6 N6 off
          have hkk : (0 : Int) + (i : Int) * 1 = (i : Int) := by omega
          rw [hkk] at hm
          clear F5 N5
          have hyl : ys.length = ws.length := hw.length.symm
          repeat' (first | ((with_reducible show wpAny _ _ (call (Value.builtin "len") _ _) _ _ _); refine len_vals (by assumption) (by assumption) (by omega) ?_; intro _ _) | ((with_reducible show wpAny _ _ (exec (PySem.Stmt.Assign (_ :: _) (PySem.Expr.ListComp _ _ _ _) _) _) _ _ _); refine Hold.it ?_) | ((with_reducible show wpAny _ _ (call (Value.builtin "list.count") _ _) _ _ _); refine Hold.it ?_) | ((with_reducible show wpAny _ _ (getMethod (Value.ref _) _ _) _ _ _); refine meth_ground (by assumption) (by assumption) ?_) | ((with_reducible show wpAny _ _ (subscriptTail _ _ _ _) _ _ _); refine' item_vals ?ia ?ib ?ic ?id ?_ ?ie; (case ie => rfl); (case ia => assumption); (case ib => assumption); (case ic => omega); (case id => omega); intro _ _) | walk_at "m1")
          refine ⟨?_⟩
          rename_i h7 F7 N7 y hy
          obtain ⟨x, hx, px⟩ := hw.get i y hy
          have k7 : Kp s.heap h7 := F7.keep
          have hsl : h7.IsList _ (ws.take (i + 1)).toArray := ⟨_, N7.get (.head _), rfl, _, by rw [show ((i : Int) + 1) = ((i + 1 : Nat) : Int) from rfl, pick_upto _ _ (by omega)]⟩
          refine count_vals hsl ((hw.keeps k7).take (i + 1)) (px.keeps k7) hok (by show A.units + 3 + 65 < cLine; omega) ?_
          intro tc tkc
          have hs7 : h7.IsList la vs.toArray := hl.at fun o e => k7 la o e
          repeat' (first | ((with_reducible show wpAny _ _ (call (Value.builtin "len") _ _) _ _ _); refine len_vals (by assumption) (by assumption) (by omega) ?_; intro _ _) | ((with_reducible show wpAny _ _ (exec (PySem.Stmt.Assign (_ :: _) (PySem.Expr.ListComp _ _ _ _) _) _) _ _ _); refine Hold.it ?_) | ((with_reducible show wpAny _ _ (call (Value.builtin "list.count") _ _) _ _ _); refine Hold.it ?_) | ((with_reducible show wpAny _ _ (getMethod (Value.ref _) _ _) _ _ _); refine meth_ground (by assumption) (by assumption) ?_) | ((with_reducible show wpAny _ _ (subscriptTail _ _ _ _) _ _ _); refine' item_vals ?ia ?ib ?ic ?id ?_ ?ie; (case ie => rfl); (case ia => assumption); (case ib => assumption); (case ic => omega); (case id => omega); intro _ _) | walk_at "m1")
          refine ⟨?_⟩
          rename_i y2 hy2
          obtain rfl : y = y2 := by rw [hy] at hy2; cases hy2; rfl
          refine count_vals hs7 (hv.keeps k7) (px.keeps k7) hok (by show A.units + 3 + 65 < cLine; omega) ?_
          intro td tkd
          have hstep := left_step (xs := xs) hx
          repeat' (first | ((with_reducible show wpAny _ _ (call (Value.builtin "len") _ _) _ _ _); refine len_vals (by assumption) (by assumption) (by omega) ?_; intro _ _) | ((with_reducible show wpAny _ _ (exec (PySem.Stmt.Assign (_ :: _) (PySem.Expr.ListComp _ _ _ _) _) _) _ _ _); refine Hold.it ?_) | ((with_reducible show wpAny _ _ (call (Value.builtin "list.count") _ _) _ _ _); refine Hold.it ?_) | ((with_reducible show wpAny _ _ (getMethod (Value.ref _) _ _) _ _ _); refine meth_ground (by assumption) (by assumption) ?_) | ((with_reducible show wpAny _ _ (subscriptTail _ _ _ _) _ _ _); refine' item_vals ?ia ?ib ?ic ?id ?_ ?ie; (case ie => rfl); (case ia => assumption); (case ib => assumption); (case ic => omega); (case id => omega); intro _ _) | walk_at "m1")
          refine ⟨?_⟩
          by_cases hgt : xs.count x < (ys.take (i + 1)).count x
          · rw [if_pos hgt] at hstep
            rw [if_pos (by simpa using hgt)]
            repeat' (first | ((with_reducible show wpAny _ _ (call (Value.builtin "len") _ _) _ _ _); refine len_vals (by assumption) (by assumption) (by omega) ?_; intro _ _) | ((with_reducible show wpAny _ _ (exec (PySem.Stmt.Assign (_ :: _) (PySem.Expr.ListComp _ _ _ _) _) _) _ _ _); refine Hold.it ?_) | ((with_reducible show wpAny _ _ (call (Value.builtin "list.count") _ _) _ _ _); refine Hold.it ?_) | ((with_reducible show wpAny _ _ (getMethod (Value.ref _) _ _) _ _ _); refine meth_ground (by assumption) (by assumption) ?_) | ((with_reducible show wpAny _ _ (subscriptTail _ _ _ _) _ _ _); refine' item_vals ?ia ?ib ?ic ?id ?_ ?ie; (case ie => rfl); (case ia => assumption); (case ib => assumption); (case ic => omega); (case id => omega); intro _ _) | walk_at "m1")
            rename_i y3 hy3
            obtain rfl : y = y3 := by rw [hy] at hy3; cases hy3; rfl
            refine ⟨_, _, rfl, F7, fun p hp => N7 p (.tail _ hp), ks2 ++ [x], hks2.append (.cons px .nil), ?_⟩
            rw [hms2, hstep]; simp
          · rw [if_neg hgt] at hstep
            rw [if_neg (by simpa using hgt)]
            refine ⟨_, _, rfl, F7, fun p hp => N7 p (.tail _ hp), ks2, hks2, ?_⟩
            rw [hms2, hstep]
        case fi2 =>
          rintro us2 ⟨ks2, hks2, hms2⟩
          rw [List.drop_of_length_le (by have := hw.length; omega)] at hms2
          have hms2' : leftF xs [] ys = ks2 := by rw [hms2]; simp [leftF]
          rw [hms2'] at ret
          unfold LCg.FinA
          intro D6 h6 tk6 F6 N6 _
          clear hms2 hms2'
          repeat' (first | ((with_reducible show wpAny _ _ (call (Value.builtin "len") _ _) _ _ _); refine len_vals (by assumption) (by assumption) (by omega) ?_; intro _ _) | ((with_reducible show wpAny _ _ (exec (PySem.Stmt.Assign (_ :: _) (PySem.Expr.ListComp _ _ _ _) _) _) _ _ _); refine Hold.it ?_) | ((with_reducible show wpAny _ _ (call (Value.builtin "list.count") _ _) _ _ _); refine Hold.it ?_) | ((with_reducible show wpAny _ _ (getMethod (Value.ref _) _ _) _ _ _); refine meth_ground (by assumption) (by assumption) ?_) | ((with_reducible show wpAny _ _ (subscriptTail _ _ _ _) _ _ _); refine' item_vals ?ia ?ib ?ic ?id ?_ ?ie; (case ie => rfl); (case ia => assumption); (case ib => assumption); (case ic => omega); (case id => omega); intro _ _) | walk_at "m1")
          rename_i D9 h9 F9 N9 _
          have k9 : Kp s.heap h9 := F9.keep
          refine ret _ _ _ k9 ?_
          exact two_lists (N9.get (.head _)) (N9.get (.tail _ (.tail _ (.head _)))) (N9.get (.tail _ (.head _))) (hks.keeps k9) (hks2.keeps k9)
end lost_spec
theorem lost_spec {w : World} {A : Around} {E : Value → Shared → Prop} {s : Shared} {base : Heap} {mg : Str → Option Value} {mb : Str → Option Value} {mean : ExcName → Option Value} {Q : Value → Shared → Prop} {outer : List Env} {la : Addr} {sa : Addr} {hs : Str} {vs : List Value} {ws : List Value} {xs : List Int} {ys : List Int} {z1 : Nat} {z2 : Nat} 
   (B : Below A base outer s.heap) (X : (Mine.KC w.params).In s.heap) (T : Top EMP LS mean mg mb s.heap) (hh : A.handled = none) (hlo : s.heap.get? la = some (lobj vs z1)) (hso : s.heap.get? sa = some (lobj ws z2)) (hv : PVs s.heap hs vs xs) (hw : PVs s.heap hs ws ys) (hok : PyData.strOk hs = true) (hn : vs.length ≤ 100) (hm : ws.length ≤ 100) (hd : A.depth + 2 < recursionLimit) (hu : A.units + 200 < cLine) (ret : ∀ v h' tk, Kp s.heap h' → (∃ as, Reads h' v (.tuple [.list ((missF ys [] xs.reverse).map (pd hs)), .list ((leftF xs [] ys).map (pd hs))]) as) → Q v { s with heap := h', toks := tk }) : wpAny (model PROG w) A (call (.ref 183) [.ref la, .ref sa]) Q E s :=
  (eps_at (G := fun q => lost_spec.Stm q.1 q.2.1 q.2.2.1 q.2.2.2.1 q.2.2.2.2.1 q.2.2.2.2.2.1 q.2.2.2.2.2.2.1 q.2.2.2.2.2.2.2.1 q.2.2.2.2.2.2.2.2.1 q.2.2.2.2.2.2.2.2.2.1 q.2.2.2.2.2.2.2.2.2.2.1 q.2.2.2.2.2.2.2.2.2.2.2.1 q.2.2.2.2.2.2.2.2.2.2.2.2.1 q.2.2.2.2.2.2.2.2.2.2.2.2.2.1 q.2.2.2.2.2.2.2.2.2.2.2.2.2.2.1 q.2.2.2.2.2.2.2.2.2.2.2.2.2.2.2.1 q.2.2.2.2.2.2.2.2.2.2.2.2.2.2.2.2.1 q.2.2.2.2.2.2.2.2.2.2.2.2.2.2.2.2.2.1 q.2.2.2.2.2.2.2.2.2.2.2.2.2.2.2.2.2.2) (c := lost_spec.cst) rfl lost_spec.it (w, A, E, s, base, mg, mb, mean, Q, outer, la, sa, hs, vs, ws, xs, ys, z1, z2) : lost_spec.Stm w A E s base mg mb mean Q outer la sa hs vs ws xs ys z1 z2)  B X T hh hlo hso hv hw hok hn hm hd hu ret
end Mine
end

section
set_option linter.all false
namespace Mine
theorem top_hide {mean : ExcName → Option Value} {mg mb : Str → Option Value} {h : Heap} {l : List Addr} (T : Top EMP LS mean mg mb h) (hd : ∀ b ∈ l, ∀ o, h.get? b = some o → (∀ es n, o.data ≠ .dict es n) ∧ o.cls ≠ .type "module") : Top EMP LS mean mg mb (hideAll h l) := by
  have ns : ∀ {a : Addr} {m : Str → Option Value}, h.Ns a m → (hideAll h l).Ns a m := fun {a m} x => by
    obtain ⟨o, es, ep, e, hdd, r⟩ := x
    exact ⟨o, es, ep, hideAll_get _ e fun hm => (hd a hm o e).1 _ _ hdd, hdd, r⟩
  refine ⟨ns T.g, ns T.b, ?_, ?_, ?_, ?_, T.const, T.free, T.builtins, ?_, ?_, ?_⟩
  · obtain ⟨mc, x, e⟩ := T.nolimit
    exact ⟨mc, ns x, e⟩
  · obtain ⟨mc, x, e⟩ := T.nodigits
    exact ⟨mc, ns x, e⟩
  · intro d hd'; exact absurd hd' (by simp [recsOf, EMP])
  · intro d hd'; exact absurd hd' (by simp [ownsOf, EMP])
  · intro d hd'; exact absurd hd' (by simp [recsOf, EMP])
  · obtain ⟨bm, ob, e1, e2, e3, e4, e5, e6⟩ := T.bmain
    exact ⟨bm, ob, e1, e2, hideAll_get _ e3 fun hm => (hd bm hm ob e3).2 e4, e4, e5, e6⟩
  · intro hi
    have x := T.seer hi
    exact ⟨let ⟨mc, a, b⟩ := x.statics; ⟨mc, ns a, b⟩, let ⟨mc, a, b⟩ := x.mods; ⟨mc, ns a, b⟩, let ⟨mc, a, b⟩ := x.imp; ⟨mc, ns a, b⟩,
      let ⟨mg, bm, ob, a, b, c, d, e⟩ := x.main; ⟨mg, bm, ob, ns a, b, hideAll_get _ c fun hm => (hd bm hm ob c).2 d, d, e⟩⟩
theorem kin_hide {P : Params} {h : Heap} {l : List Addr} (X : (KC P).In h) (hl : ∀ b ∈ l, offC b = true) (ho : ∀ a o, (KC P).lookup a = some o → offC a = false) : (KC P).In (hideAll h l) := fun a o e => hideAll_get _ (X a o e) fun hm => by
  have := ho a o e
  rw [hl a hm] at this; cases this
theorem KC_off {P : Params} {a : Addr} {o : Obj} (e : (KC P).lookup a = some o) : offC a = false := ((KC_less P).lookup e).2
theorem ground_of {w : World} {mean : ExcName → Option Value} {mg mb : Str → Option Value} {h : Heap} (X : (KC w.params).In h) (T : Top EMP LS mean mg mb h) (h60 : h.get? 60 = some (tabObj #[])) (h152 : h.get? 152 = some (tabObj #[])) :
    Gr w callerA (hideAll h [60, 152]) [] mean mg mb (hideAll h [60, 152]) := by
  refine ⟨below_caller _, kin_hide X (fun b hb => ?_) (fun a o e => KC_off e), top_hide T fun b hb o ho => ?_, fun b hb => nomatch hb⟩
  · rcases List.mem_cons.mp hb with rfl | hb
    · rfl
    · rw [List.mem_singleton.mp hb]; rfl
  · rcases List.mem_cons.mp hb with rfl | hb
    · rw [h60] at ho; cases ho
      exact ⟨(fun es n q => by cases q), (by intro q; cases q)⟩
    · rw [List.mem_singleton.mp hb, h152] at ho; cases ho
      exact ⟨(fun es n q => by cases q), (by intro q; cases q)⟩
end Mine
end

section
namespace Mine
set_option maxRecDepth 100000
set_option maxHeartbeats 1000000
set_option linter.all false
structure LawVars where
  row : Option Value := none
  things : Option Value := none
  writings : Option Value := none
  longs : Option Value := none
  shorts : Option Value := none
  spoiled : Option Value := none
  turned : Option Value := none
  good : Option Value := none
  whole : Option Value := none
  kept : Option Value := none
noncomputable abbrev lawMap (l : Addr) (o : LawVars) : Str → Option Value := fun y =>
  if y = Str.ofString "kept" then o.kept else if y = Str.ofString "whole" then o.whole else if y = Str.ofString "good" then o.good else if y = Str.ofString "turned" then o.turned else
  if y = Str.ofString "spoiled" then o.spoiled else if y = Str.ofString "shorts" then o.shorts else if y = Str.ofString "longs" then o.longs else if y = Str.ofString "writings" then o.writings else
  if y = Str.ofString "things" then o.things else if y = Str.ofString "row" then o.row else if y = Str.ofString "script" then some (.ref l) else none
noncomputable def LawDef (w : World) (body : List Stmt) (scope : Scope) (qual : Str) (cdv : Value) : Prop := ∃ oc od name params dV kV doc pm an ct osl, (Mine.KC w.params).lookup 188 = some ⟨oc, od, .func (fnOf name qual params body scope dV kV doc pm an cdv ct), osl⟩
theorem lit_def {K : Frag} {f : Addr} {P : Prop} {name qual : Str} {params : Arguments} {body : List Stmt} {scope : Scope} {dV kV doc pm cdv ct oc : Value} {an od : Option Addr} {osl : Array (Option Value)} {name' qual' : Str} {params' : Arguments} {body' : List Stmt} {scope' : Scope} {dV' kV' doc' pm' cdv' ct' oc' : Value} {an' od' : Option Addr} {osl' : Array (Option Value)}
    (h : K.lookup f = some ⟨oc, od, .func (fnOf name qual params body scope dV kV doc pm an cdv ct), osl⟩) (h' : K.lookup f = some ⟨oc', od', .func (fnOf name' qual' params' body' scope' dV' kV' doc' pm' an' cdv' ct'), osl'⟩)
    (k : body' = body → scope' = scope → qual' = qual → cdv' = cdv → P) : P := by
  rw [h] at h'
  injection h' with h'
  injection h' with _ _ h3 _
  injection h3 with h3
  have e1 := congrArg FuncData.body h3
  have e2 := congrArg FuncData.scope h3
  have e3 := congrArg FuncData.qualname h3
  have e4 := congrArg FuncData.code h3
  simp only [fnOf] at e1 e2 e3 e4
  injection e1 with e1
  exact k e1.symm e2.symm e3.symm e4.symm
noncomputable def RowAt (D : Addr) (o : Obj) (rn : List Int) : Prop := ∃ rv z, o = lobj rv z ∧ IntsAre rv rn ∧ rn.length ≤ 63 ∧ ∀ n ∈ rn, 0 ≤ n ∧ n < 1000000
noncomputable def law_b0.Stm (w : World) (A : Around) (E : Value → Shared → Prop) (s : Shared) (base : Heap) (mg : Str → Option Value) (mb : Str → Option Value) (mean : ExcName → Option Value) (Q : Value → Shared → Prop) (outer : List Env) (g : Heap) (l : Addr) (L' : Addr) (vs : List Value) (ns : List Int) (news : List (Addr × Obj)) : Prop := ∀ (body : List Stmt) (scope : Scope) (qual : Str) (cdv : Value) (hdef : LawDef w body scope qual cdv) (G : Gr w A base outer mean mg mb g) (hh : A.handled = none) (hl : g.IsList l vs.toArray) (hi : IntsAre vs ns) (hn : ns.length ≤ 63) (hd : A.depth + 10 < recursionLimit) (hu : A.units + 300 < cLine) (F : Fr g L' s.heap (lawMap l {})) (N : News g L' s.heap news), wpAny (model PROG w) (A.deeper (envOfC qual scope L' 188 cdv)) (execs ((body.drop 0).take 1) (envOfC qual scope L' 188 cdv))
    (fun f s' => Hold (f = .next ∧ ∃ h tk D o rn, s' = { s with heap := h, toks := tk } ∧ Fr g L' h (lawMap l { row := some (.ref D) }) ∧ News g L' h ((D, o) :: news) ∧ RowAt D o rn)) (fun _ _ => False) s
noncomputable def law_b0.cst : (World) × (Around) × (Value → Shared → Prop) × (Shared) × (Heap) × (Str → Option Value) × (Str → Option Value) × (ExcName → Option Value) × (Value → Shared → Prop) × (List Env) × (Heap) × (Addr) × (Addr) × (List Value) × (List Int) × (List (Addr × Obj)) := eps (aWorld 0, {}, fun _ _ => True, {}, {}, fun _ => none, fun _ => none, fun _ => none, fun _ _ => True, [], {}, 0, 0, [], [], []) (fun q => law_b0.Stm q.1 q.2.1 q.2.2.1 q.2.2.2.1 q.2.2.2.2.1 q.2.2.2.2.2.1 q.2.2.2.2.2.2.1 q.2.2.2.2.2.2.2.1 q.2.2.2.2.2.2.2.2.1 q.2.2.2.2.2.2.2.2.2.1 q.2.2.2.2.2.2.2.2.2.2.1 q.2.2.2.2.2.2.2.2.2.2.2.1 q.2.2.2.2.2.2.2.2.2.2.2.2.1 q.2.2.2.2.2.2.2.2.2.2.2.2.2.1 q.2.2.2.2.2.2.2.2.2.2.2.2.2.2.1 q.2.2.2.2.2.2.2.2.2.2.2.2.2.2.2)
namespace law_b0
noncomputable def s : Shared := cst.2.2.2.1
noncomputable def g : Heap := cst.2.2.2.2.2.2.2.2.2.2.1
noncomputable def L' : Addr := cst.2.2.2.2.2.2.2.2.2.2.2.2.1
noncomputable def vs : List Value := cst.2.2.2.2.2.2.2.2.2.2.2.2.2.1
noncomputable def ns : List Int := cst.2.2.2.2.2.2.2.2.2.2.2.2.2.2.1
theorem it : Stm cst.1 cst.2.1 cst.2.2.1 s cst.2.2.2.2.1 cst.2.2.2.2.2.1 cst.2.2.2.2.2.2.1 cst.2.2.2.2.2.2.2.1 cst.2.2.2.2.2.2.2.2.1 cst.2.2.2.2.2.2.2.2.2.1 g cst.2.2.2.2.2.2.2.2.2.2.2.1 L' vs ns cst.2.2.2.2.2.2.2.2.2.2.2.2.2.2.2 := by
  intro body scope qual cdv hdef G hh hl hi hn hd hu F N
  have hfill : (fun (_ : OpenLaw) (_ : Params → Frag) => True) PySem.Challenge.rw_nq0040_01 Mine.KC := by (k_fill; trivial)
  clear hfill
  w_top off
  obtain ⟨oc, od, name, params, dV, kV, doc, pm, an, ct, osl, hlk⟩ := hdef
  k_dflt (refine' lit_def ?li hlk ?_; (case li => k_is); k_whole)
  rintro rfl rfl rfl rfl
  dsimp only [List.drop, List.take]
  obtain ⟨B2, X2, T2, D2⟩ := G
  repeat' (first | ((with_reducible show wpAny _ _ (exec (PySem.Stmt.Assign (_ :: _) (PySem.Expr.ListComp _ _ _ _) _) _) _ _ _); refine Hold.it ?_) | walk_at "m1")
  refine ⟨?_⟩
  have hvl : vs.length ≤ 63 := by have := hi.length; omega
  refine' assign_list (h₀ := g) (L := L') F rfl ?aa ?ab ?ac ?ad ?ae ?af ?ag ?ah ?ai ?aj
  case aa => with_unfolding_all rfl
  case ab => with_unfolding_all rfl
  case ac => decide
  case ad => rfl
  case ae => decide
  case af => rfl
  case ag => rfl
  case ah => rfl
  case aj => intro _; rfl
  case ai =>
    repeat' (first | ((with_reducible show wpAny _ _ (exec (PySem.Stmt.Assign (_ :: _) (PySem.Expr.ListComp _ _ _ _) _) _) _ _ _); refine Hold.it ?_) | walk_at "m1")
    rename_i D2 ws h2 F2 N2 l2 hws hc2 hl2
    have hwl := hws.length
    refine ⟨D2, ws.toArray, _, rfl, hh, F2, N2, .inr ⟨_, .head _, rfl, _, rfl⟩, ?sz, fun g5 => rest_genU (fun i us nw => nw = _ ∧ IntsAre us (((ns.take 63).take i).map fun z => Int.fmod z 1000000)) ?hS ⟨rfl, .nil⟩ ?tu ?fi⟩
    case sz => simp; omega
    case hS => rintro _ _ _ ⟨rfl, _⟩; exact .inr ⟨_, .head _, rfl, _, rfl⟩
    case tu =>
      rintro i v I oI C oC D us nw m₂ h6 tk6 hi6 ⟨rfl, hus⟩ hv hC hm F6 N6 off
      obtain ⟨n, t, rfl, hn6⟩ := hws.at i v (by simpa using hv)
      clear F2 N2
      repeat' (first | ((with_reducible show wpAny _ _ (exec (PySem.Stmt.Assign (_ :: _) (PySem.Expr.ListComp _ _ _ _) _) _) _ _ _); refine Hold.it ?_) | walk_at "m1")
      refine ⟨_, _, [], rfl, Kp.refl _, Ex.nil, rfl, ?_⟩
      rw [List.take_succ, hn6, List.map_append]
      exact hus.append (.cons _ _ .nil)
    case fi =>
      rintro us nw ⟨rfl, hus⟩
      rw [List.take_of_length_le (by simp; omega)] at hus
      unfold LCg.FinA
      intro D3 h3 tk3 F3 N3 _
      repeat' (first | ((with_reducible show wpAny _ _ (exec (PySem.Stmt.Assign (_ :: _) (PySem.Expr.ListComp _ _ _ _) _) _) _ _ _); refine Hold.it ?_) | walk_at "m1")
      refine ⟨rfl, h3, _, D3, lobj us us.length, (ns.take 63).map (fun z => Int.fmod z 1000000), rfl, Fr.as F3 ?fr, fun p hp => ?ne, us, us.length, rfl, hus, ?le, ?bo⟩
      case fr => (funext zz; by_cases hz0 : zz = PySem.Str.ofString "kept"; (focus (subst hz0; rfl)); by_cases hz1 : zz = PySem.Str.ofString "whole"; (focus (subst hz1; rfl)); by_cases hz2 : zz = PySem.Str.ofString "good"; (focus (subst hz2; rfl)); by_cases hz3 : zz = PySem.Str.ofString "turned"; (focus (subst hz3; rfl)); by_cases hz4 : zz = PySem.Str.ofString "spoiled"; (focus (subst hz4; rfl)); by_cases hz5 : zz = PySem.Str.ofString "shorts"; (focus (subst hz5; rfl)); by_cases hz6 : zz = PySem.Str.ofString "longs"; (focus (subst hz6; rfl)); by_cases hz7 : zz = PySem.Str.ofString "writings"; (focus (subst hz7; rfl)); by_cases hz8 : zz = PySem.Str.ofString "things"; (focus (subst hz8; rfl)); by_cases hz9 : zz = PySem.Str.ofString "row"; (focus (subst hz9; rfl)); by_cases hz10 : zz = PySem.Str.ofString "script"; (focus (subst hz10; rfl)); (try dsimp only); (try simp only [if_neg hz0]); (try simp only [if_neg hz1]); (try simp only [if_neg hz2]); (try simp only [if_neg hz3]); (try simp only [if_neg hz4]); (try simp only [if_neg hz5]); (try simp only [if_neg hz6]); (try simp only [if_neg hz7]); (try simp only [if_neg hz8]); (try simp only [if_neg hz9]); (try simp only [if_neg hz10]); (try rfl))
      case ne =>
        rcases List.mem_cons.mp hp with rfl | hp
        · exact N3 _ (.head _)
        · exact N3 _ (.tail _ (.tail _ hp))
      case le => simp; omega
      case bo =>
        intro n hn'
        obtain ⟨z, _, rfl⟩ := List.mem_map.mp hn'
        exact ⟨Int.fmod_nonneg_of_pos z (by decide), Int.fmod_lt_of_pos z (by decide)⟩
end law_b0
theorem law_b0 {w : World} {A : Around} {E : Value → Shared → Prop} {s : Shared} {base : Heap} {mg : Str → Option Value} {mb : Str → Option Value} {mean : ExcName → Option Value} {Q : Value → Shared → Prop} {outer : List Env} {g : Heap} {l : Addr} {L' : Addr} {vs : List Value} {ns : List Int} {news : List (Addr × Obj)} {body : List Stmt} {scope : Scope} {qual : Str} {cdv : Value}
   (hdef : LawDef w body scope qual cdv) (G : Gr w A base outer mean mg mb g) (hh : A.handled = none) (hl : g.IsList l vs.toArray) (hi : IntsAre vs ns) (hn : ns.length ≤ 63) (hd : A.depth + 10 < recursionLimit) (hu : A.units + 300 < cLine) (F : Fr g L' s.heap (lawMap l {})) (N : News g L' s.heap news) : wpAny (model PROG w) (A.deeper (envOfC qual scope L' 188 cdv)) (execs ((body.drop 0).take 1) (envOfC qual scope L' 188 cdv))
    (fun f s' => Hold (f = .next ∧ ∃ h tk D o rn, s' = { s with heap := h, toks := tk } ∧ Fr g L' h (lawMap l { row := some (.ref D) }) ∧ News g L' h ((D, o) :: news) ∧ RowAt D o rn)) (fun _ _ => False) s :=
  (eps_at (G := fun q => law_b0.Stm q.1 q.2.1 q.2.2.1 q.2.2.2.1 q.2.2.2.2.1 q.2.2.2.2.2.1 q.2.2.2.2.2.2.1 q.2.2.2.2.2.2.2.1 q.2.2.2.2.2.2.2.2.1 q.2.2.2.2.2.2.2.2.2.1 q.2.2.2.2.2.2.2.2.2.2.1 q.2.2.2.2.2.2.2.2.2.2.2.1 q.2.2.2.2.2.2.2.2.2.2.2.2.1 q.2.2.2.2.2.2.2.2.2.2.2.2.2.1 q.2.2.2.2.2.2.2.2.2.2.2.2.2.2.1 q.2.2.2.2.2.2.2.2.2.2.2.2.2.2.2) (c := law_b0.cst) rfl law_b0.it (w, A, E, s, base, mg, mb, mean, Q, outer, g, l, L', vs, ns, news) : law_b0.Stm w A E s base mg mb mean Q outer g l L' vs ns news) body scope qual cdv hdef G hh hl hi hn hd hu F N
end Mine
end

section
namespace Mine
set_option maxRecDepth 100000
set_option maxHeartbeats 1000000
set_option linter.all false
theorem news_ex {g h h' : Heap} {L : Addr} {m : Str → Option Value} {news ex : List (Addr × Obj)} (F : Fr g L h m) (N : News g L h news) (k : Kp h h') (x : Ex h h' ex) : News g L h' (ex ++ news) := fun p hp => by
  rcases List.mem_append.mp hp with hp | hp
  · have := x p hp
    refine ⟨this.2, fun e => ?_, kts_none F.keep this.1⟩
    obtain ⟨o, _, _, ho, _⟩ := F.ns
    rw [e, ho] at this; cases this.1
  · exact N.grown k p hp
noncomputable def law_b1.Stm (w : World) (A : Around) (E : Value → Shared → Prop) (s : Shared) (base : Heap) (mg : Str → Option Value) (mb : Str → Option Value) (mean : ExcName → Option Value) (Q : Value → Shared → Prop) (outer : List Env) (g : Heap) (l : Addr) (L' : Addr) (D : Addr) (rn : List Int) (news : List (Addr × Obj)) : Prop := ∀ (o : Obj) (body : List Stmt) (scope : Scope) (qual : Str) (cdv : Value) (hdef : LawDef w body scope qual cdv) (G : Gr w A base outer mean mg mb g) (hh : A.handled = none) (hd : A.depth + 10 < recursionLimit) (hu : A.units + 300 < cLine) (F : Fr g L' s.heap (lawMap l { row := some (.ref D) })) (N : News g L' s.heap news) (hm : (D, o) ∈ news) (hro : RowAt D o rn), wpAny (model PROG w) (A.deeper (envOfC qual scope L' 188 cdv)) (execs ((body.drop 1).take 1) (envOfC qual scope L' 188 cdv))
    (fun f s' => Hold (f = .next ∧ ∃ h tk T tv z ds O, s' = { s with heap := h, toks := tk } ∧ Fr g L' h (lawMap l { row := some (.ref D), things := some (.ref T) }) ∧ News g L' h ((T, lobj tv z) :: (O ++ news)) ∧ Each w O tv ds ∧ 6 ≤ tv.length ∧ tv.length ≤ 14 ∧ (∀ p ∈ (T, lobj tv z) :: O, s.heap.get? p.1 = none) ∧ First ds)) (fun _ _ => False) s
noncomputable def law_b1.cst : (World) × (Around) × (Value → Shared → Prop) × (Shared) × (Heap) × (Str → Option Value) × (Str → Option Value) × (ExcName → Option Value) × (Value → Shared → Prop) × (List Env) × (Heap) × (Addr) × (Addr) × (Addr) × (List Int) × (List (Addr × Obj)) := eps (aWorld 0, {}, fun _ _ => True, {}, {}, fun _ => none, fun _ => none, fun _ => none, fun _ _ => True, [], {}, 0, 0, 0, [], []) (fun q => law_b1.Stm q.1 q.2.1 q.2.2.1 q.2.2.2.1 q.2.2.2.2.1 q.2.2.2.2.2.1 q.2.2.2.2.2.2.1 q.2.2.2.2.2.2.2.1 q.2.2.2.2.2.2.2.2.1 q.2.2.2.2.2.2.2.2.2.1 q.2.2.2.2.2.2.2.2.2.2.1 q.2.2.2.2.2.2.2.2.2.2.2.1 q.2.2.2.2.2.2.2.2.2.2.2.2.1 q.2.2.2.2.2.2.2.2.2.2.2.2.2.1 q.2.2.2.2.2.2.2.2.2.2.2.2.2.2.1 q.2.2.2.2.2.2.2.2.2.2.2.2.2.2.2)
namespace law_b1
noncomputable def A : Around := cst.2.1
noncomputable def s : Shared := cst.2.2.2.1
noncomputable def g : Heap := cst.2.2.2.2.2.2.2.2.2.2.1
noncomputable def L' : Addr := cst.2.2.2.2.2.2.2.2.2.2.2.2.1
noncomputable def rn : List Int := cst.2.2.2.2.2.2.2.2.2.2.2.2.2.2.1
noncomputable def news : List (Addr × Obj) := cst.2.2.2.2.2.2.2.2.2.2.2.2.2.2.2
theorem it : Stm cst.1 A cst.2.2.1 s cst.2.2.2.2.1 cst.2.2.2.2.2.1 cst.2.2.2.2.2.2.1 cst.2.2.2.2.2.2.2.1 cst.2.2.2.2.2.2.2.2.1 cst.2.2.2.2.2.2.2.2.2.1 g cst.2.2.2.2.2.2.2.2.2.2.2.1 L' cst.2.2.2.2.2.2.2.2.2.2.2.2.2.1 rn news := by
  intro o body scope qual cdv hdef G hh hd hu F N hm hro
  have hfill : (fun (_ : OpenLaw) (_ : Params → Frag) => True) PySem.Challenge.rw_nq0040_01 Mine.KC := by (k_fill; trivial)
  clear hfill
  w_top off
  obtain ⟨oc, od, name, params, dV, kV, doc, pm, an, ct, osl, hlk⟩ := hdef
  k_dflt (refine' lit_def ?li hlk ?_; (case li => k_is); k_whole)
  rintro rfl rfl rfl rfl
  dsimp only [List.drop, List.take]
  obtain ⟨B2, X2, T2, D2⟩ := G
  walk_at "m_steps"
  obtain ⟨rv, z0, rfl, hrv, hr1, hr2⟩ := hro
  refine things_spec (vs := rv) (ns := rn) (belowX B2 F) (X2.keeps F.keep) (T2.keeps F.keep) hh ?_ ⟨_, (N _ hm).1, rfl, _, rfl⟩ hrv hr1 hr2 ?_
  · show A.depth + 1 + 2 < recursionLimit; omega
  rintro v h3 tk3 k3 ⟨T, tv, z, ds, O, rfl, ⟨L3, N3⟩, hea, hl1, hl2, hfi⟩
  try dsimp only at k3 N3
  have F3 := F.keeps k3
  have N4 : News g L' h3 (((T, lobj tv z) :: O) ++ news) := news_ex F N k3 fun p hp => ⟨(N3 p hp).2.2, (N3 p hp).1⟩
  have hfr : ∀ p ∈ (T, lobj tv z) :: O, s.heap.get? p.1 = none := fun p hp => (N3 p hp).2.2
  clear N F N3
  walk_at "m_steps"
  rename_i F9 N9
  refine' ⟨rfl, _, _, T, tv, z, ds, O, rfl, Fr.as F9 ?fr, N9, hea, hl1, hl2, hfr, hfi⟩
  case fr => (funext zz; by_cases hz0 : zz = PySem.Str.ofString "kept"; (focus (subst hz0; rfl)); by_cases hz1 : zz = PySem.Str.ofString "whole"; (focus (subst hz1; rfl)); by_cases hz2 : zz = PySem.Str.ofString "good"; (focus (subst hz2; rfl)); by_cases hz3 : zz = PySem.Str.ofString "turned"; (focus (subst hz3; rfl)); by_cases hz4 : zz = PySem.Str.ofString "spoiled"; (focus (subst hz4; rfl)); by_cases hz5 : zz = PySem.Str.ofString "shorts"; (focus (subst hz5; rfl)); by_cases hz6 : zz = PySem.Str.ofString "longs"; (focus (subst hz6; rfl)); by_cases hz7 : zz = PySem.Str.ofString "writings"; (focus (subst hz7; rfl)); by_cases hz8 : zz = PySem.Str.ofString "things"; (focus (subst hz8; rfl)); by_cases hz9 : zz = PySem.Str.ofString "row"; (focus (subst hz9; rfl)); by_cases hz10 : zz = PySem.Str.ofString "script"; (focus (subst hz10; rfl)); (try dsimp only); (try simp only [if_neg hz0]); (try simp only [if_neg hz1]); (try simp only [if_neg hz2]); (try simp only [if_neg hz3]); (try simp only [if_neg hz4]); (try simp only [if_neg hz5]); (try simp only [if_neg hz6]); (try simp only [if_neg hz7]); (try simp only [if_neg hz8]); (try simp only [if_neg hz9]); (try simp only [if_neg hz10]); (try rfl))
end law_b1
theorem law_b1 {w : World} {A : Around} {E : Value → Shared → Prop} {s : Shared} {base : Heap} {mg : Str → Option Value} {mb : Str → Option Value} {mean : ExcName → Option Value} {Q : Value → Shared → Prop} {outer : List Env} {g : Heap} {l : Addr} {L' : Addr} {D : Addr} {rn : List Int} {news : List (Addr × Obj)} {o : Obj} {body : List Stmt} {scope : Scope} {qual : Str} {cdv : Value}
   (hdef : LawDef w body scope qual cdv) (G : Gr w A base outer mean mg mb g) (hh : A.handled = none) (hd : A.depth + 10 < recursionLimit) (hu : A.units + 300 < cLine) (F : Fr g L' s.heap (lawMap l { row := some (.ref D) })) (N : News g L' s.heap news) (hm : (D, o) ∈ news) (hro : RowAt D o rn) : wpAny (model PROG w) (A.deeper (envOfC qual scope L' 188 cdv)) (execs ((body.drop 1).take 1) (envOfC qual scope L' 188 cdv))
    (fun f s' => Hold (f = .next ∧ ∃ h tk T tv z ds O, s' = { s with heap := h, toks := tk } ∧ Fr g L' h (lawMap l { row := some (.ref D), things := some (.ref T) }) ∧ News g L' h ((T, lobj tv z) :: (O ++ news)) ∧ Each w O tv ds ∧ 6 ≤ tv.length ∧ tv.length ≤ 14 ∧ (∀ p ∈ (T, lobj tv z) :: O, s.heap.get? p.1 = none) ∧ First ds)) (fun _ _ => False) s :=
  (eps_at (G := fun q => law_b1.Stm q.1 q.2.1 q.2.2.1 q.2.2.2.1 q.2.2.2.2.1 q.2.2.2.2.2.1 q.2.2.2.2.2.2.1 q.2.2.2.2.2.2.2.1 q.2.2.2.2.2.2.2.2.1 q.2.2.2.2.2.2.2.2.2.1 q.2.2.2.2.2.2.2.2.2.2.1 q.2.2.2.2.2.2.2.2.2.2.2.1 q.2.2.2.2.2.2.2.2.2.2.2.2.1 q.2.2.2.2.2.2.2.2.2.2.2.2.2.1 q.2.2.2.2.2.2.2.2.2.2.2.2.2.2.1 q.2.2.2.2.2.2.2.2.2.2.2.2.2.2.2) (c := law_b1.cst) rfl law_b1.it (w, A, E, s, base, mg, mb, mean, Q, outer, g, l, L', D, rn, news) : law_b1.Stm w A E s base mg mb mean Q outer g l L' D rn news) o body scope qual cdv hdef G hh hd hu F N hm hro
theorem strOk_asc {x : Str} (h : Asc x) : PyData.strOk x = true := by
  unfold PyData.strOk
  simp only [List.all_eq_true, Array.all_eq_true_iff_forall_mem, decide_eq_true_eq]
  intro c hc
  have := h c (by simpa using hc)
  omega
theorem int_len2 {n : Int} (h0 : 0 ≤ n) (h1 : n < 50) : (Str.ofString (toString n)).length ≤ 3 := by
  have := int_text_length_le10 (a := n) (k := 2) (by decide) (by omega)
  rw [Str.ofString_eq_toList]
  simpa [Str.length, ← String.length_toList] using this
noncomputable def HostAt (L : Addr) (news : List (Addr × Obj)) (hs : Str) (th : Tok) (pa : Addr) (t21 : Tok) : Prop := ∃ oh op z, (L + 1, oh) ∈ news ∧ (L + 1 + 1, op) ∈ news ∧ oh.data = .cell (some (.str hs th)) ∧ op.data = .cell (some (.ref pa)) ∧ (pa, ({ cls := .type "tuple", data := .seq #[.str hs th, .int 21 t21] z } : Obj)) ∈ news
noncomputable def law_b2.Stm (w : World) (A : Around) (E : Value → Shared → Prop) (s : Shared) (base : Heap) (mg : Str → Option Value) (mb : Str → Option Value) (mean : ExcName → Option Value) (Q : Value → Shared → Prop) (outer : List Env) (g : Heap) (l : Addr) (L' : Addr) (D : Addr) (T : Addr) (rn : List Int) (news : List (Addr × Obj)) (oh : Obj) (op : Obj) (c1 : Option Value) (c2 : Option Value) : Prop := ∀ (o : Obj) (body : List Stmt) (scope : Scope) (qual : Str) (cdv : Value) (hdef : LawDef w body scope qual cdv) (G : Gr w A base outer mean mg mb g) (hh : A.handled = none) (hd : A.depth + 10 < recursionLimit) (hu : A.units + 300 < cLine) (F : Fr g L' s.heap (lawMap l { row := some (.ref D), things := some (.ref T) })) (N : News g L' s.heap ((L' + 1 + 1, op) :: (L' + 1, oh) :: news)) (hoff : ∀ p ∈ news, p.1 ≠ L' + 1 ∧ p.1 ≠ L' + 1 + 1) (e1 : oh.data = .cell c1) (e2 : op.data = .cell c2) (hm : (D, o) ∈ news) (hro : RowAt D o rn), wpAny (model PROG w) (A.deeper (envOfC qual scope L' 188 cdv)) (execs ((body.drop 2).take 2) (envOfC qual scope L' 188 cdv))
    (fun f s' => Hold (f = .next ∧ ∃ h tk hs th pa t21 ex, s' = { s with heap := h, toks := tk } ∧ Fr g L' h (lawMap l { row := some (.ref D), things := some (.ref T) }) ∧ News g L' h (ex ++ news) ∧ HostAt L' ex hs th pa t21 ∧ PyData.strOk hs = true ∧ hs.length ≤ 10)) (fun _ _ => False) s
noncomputable def law_b2.cst : (World) × (Around) × (Value → Shared → Prop) × (Shared) × (Heap) × (Str → Option Value) × (Str → Option Value) × (ExcName → Option Value) × (Value → Shared → Prop) × (List Env) × (Heap) × (Addr) × (Addr) × (Addr) × (Addr) × (List Int) × (List (Addr × Obj)) × (Obj) × (Obj) × (Option Value) × (Option Value) := eps (aWorld 0, {}, fun _ _ => True, {}, {}, fun _ => none, fun _ => none, fun _ => none, fun _ _ => True, [], {}, 0, 0, 0, 0, [], [], ⟨.none, none, .plain, #[]⟩, ⟨.none, none, .plain, #[]⟩, none, none) (fun q => law_b2.Stm q.1 q.2.1 q.2.2.1 q.2.2.2.1 q.2.2.2.2.1 q.2.2.2.2.2.1 q.2.2.2.2.2.2.1 q.2.2.2.2.2.2.2.1 q.2.2.2.2.2.2.2.2.1 q.2.2.2.2.2.2.2.2.2.1 q.2.2.2.2.2.2.2.2.2.2.1 q.2.2.2.2.2.2.2.2.2.2.2.1 q.2.2.2.2.2.2.2.2.2.2.2.2.1 q.2.2.2.2.2.2.2.2.2.2.2.2.2.1 q.2.2.2.2.2.2.2.2.2.2.2.2.2.2.1 q.2.2.2.2.2.2.2.2.2.2.2.2.2.2.2.1 q.2.2.2.2.2.2.2.2.2.2.2.2.2.2.2.2.1 q.2.2.2.2.2.2.2.2.2.2.2.2.2.2.2.2.2.1 q.2.2.2.2.2.2.2.2.2.2.2.2.2.2.2.2.2.2.1 q.2.2.2.2.2.2.2.2.2.2.2.2.2.2.2.2.2.2.2.1 q.2.2.2.2.2.2.2.2.2.2.2.2.2.2.2.2.2.2.2.2)
namespace law_b2
noncomputable def s : Shared := cst.2.2.2.1
noncomputable def L' : Addr := cst.2.2.2.2.2.2.2.2.2.2.2.2.1
noncomputable def rn : List Int := cst.2.2.2.2.2.2.2.2.2.2.2.2.2.2.2.1
noncomputable def op : Obj := cst.2.2.2.2.2.2.2.2.2.2.2.2.2.2.2.2.2.2.1
theorem it : Stm cst.1 cst.2.1 cst.2.2.1 s cst.2.2.2.2.1 cst.2.2.2.2.2.1 cst.2.2.2.2.2.2.1 cst.2.2.2.2.2.2.2.1 cst.2.2.2.2.2.2.2.2.1 cst.2.2.2.2.2.2.2.2.2.1 cst.2.2.2.2.2.2.2.2.2.2.1 cst.2.2.2.2.2.2.2.2.2.2.2.1 L' cst.2.2.2.2.2.2.2.2.2.2.2.2.2.1 cst.2.2.2.2.2.2.2.2.2.2.2.2.2.2.1 rn cst.2.2.2.2.2.2.2.2.2.2.2.2.2.2.2.2.1 cst.2.2.2.2.2.2.2.2.2.2.2.2.2.2.2.2.2.1 op cst.2.2.2.2.2.2.2.2.2.2.2.2.2.2.2.2.2.2.2.1 cst.2.2.2.2.2.2.2.2.2.2.2.2.2.2.2.2.2.2.2.2 := by
  intro o body scope qual cdv hdef G hh hd hu F N hoff e1 e2 hm hro
  have hfill : (fun (_ : OpenLaw) (_ : Params → Frag) => True) PySem.Challenge.rw_nq0040_01 Mine.KC := by (k_fill; trivial)
  clear hfill
  w_top off
  obtain ⟨oc, od, name, params, dV, kV, doc, pm, an, ct, osl, hlk⟩ := hdef
  k_dflt (refine' lit_def ?li hlk ?_; (case li => k_is); k_whole)
  rintro rfl rfl rfl rfl
  dsimp only [List.drop, List.take]
  obtain ⟨B2, X2, T2, D2⟩ := G
  repeat' (first | ((with_reducible show wpAny _ _ (call (Value.builtin "sum") _ _) _ _ _); refine Hold.it ?_) | walk_at "m1")
  refine ⟨?_⟩
  obtain ⟨rv, z0, rfl, hrv, hr1, hr2⟩ := hro
  refine LSm.sum_ints (vs := rv) F N hh ⟨_, (N _ (.tail _ (.tail _ hm))).1, rfl, _, rfl⟩ hrv ?_
  intro h3 tk3 t3 F3 N3
  generalize rn.sum = su
  clear F N
  have s0 := Int.fmod_nonneg_of_pos su (by decide : (0 : Int) < 50)
  have s1 := Int.fmod_lt_of_pos su (by decide : (0 : Int) < 50)
  have hne : (L' + 1 + 1 : Addr) ≠ L' + 1 := Nat.succ_ne_self _
  repeat' (first | ((with_reducible show wpAny _ _ (call (Value.builtin "sum") _ _) _ _ _); refine Hold.it ?_) | walk_at "m1")
  refine' storeX_C F3 N3 ?ca (UpdF.tail (p := (L' + 1 + 1, op)) hne (UpdF.head fun p hp => (hoff p hp).1)) e1 ?_ ?cb ?cc
  case ca => rfl
  case cb => rfl
  case cc => rfl
  intro h4 oh' F4 N4 e1'
  clear F3 N3
  dsimp only at N4 ⊢
  repeat' (first | ((with_reducible show wpAny _ _ (call (Value.builtin "sum") _ _) _ _ _); refine Hold.it ?_) | walk_at "m1")
  rename_i pa h5 F5 N5 l5
  refine' storeX_C (x := Str.ofString "peer") F5 N5 ?da (UpdF.tail (p := (pa, _)) ?dz (UpdF.head ?dy)) e2 ?_ ?db ?dc
  case da => rfl
  case db => rfl
  case dc => rfl
  case dz => exact Nat.ne_of_gt l5.1
  case dy =>
    intro p hp
    rcases List.mem_cons.mp hp with rfl | hp
    · exact Ne.symm hne
    · exact (hoff p hp).2
  intro h6 op' F6 N6 e2'
  clear F5 N5
  dsimp only at N6 ⊢
  repeat' (first | ((with_reducible show wpAny _ _ (call (Value.builtin "sum") _ _) _ _ _); refine Hold.it ?_) | walk_at "m1")
  refine ⟨rfl, _, _, _, _, pa, _, [(pa, _), (L' + 1 + 1, op'), (L' + 1, oh')], rfl, F6, N6, ⟨oh', op', _, .tail _ (.tail _ (.head _)), .tail _ (.head _), e1', e2', .head _⟩, ?ok, ?le⟩
  case ok => exact strOk_asc (asc_app (asc_of _ (by decide +kernel)) (int_asc s0))
  case le =>
    rw [strLen_append]
    have := int_len2 s0 s1
    have e : (Str.ofString "h").length = 1 := by decide +kernel
    omega
end law_b2
theorem law_b2 {w : World} {A : Around} {E : Value → Shared → Prop} {s : Shared} {base : Heap} {mg : Str → Option Value} {mb : Str → Option Value} {mean : ExcName → Option Value} {Q : Value → Shared → Prop} {outer : List Env} {g : Heap} {l : Addr} {L' : Addr} {D : Addr} {T : Addr} {rn : List Int} {news : List (Addr × Obj)} {oh : Obj} {op : Obj} {c1 : Option Value} {c2 : Option Value} {o : Obj} {body : List Stmt} {scope : Scope} {qual : Str} {cdv : Value}
   (hdef : LawDef w body scope qual cdv) (G : Gr w A base outer mean mg mb g) (hh : A.handled = none) (hd : A.depth + 10 < recursionLimit) (hu : A.units + 300 < cLine) (F : Fr g L' s.heap (lawMap l { row := some (.ref D), things := some (.ref T) })) (N : News g L' s.heap ((L' + 1 + 1, op) :: (L' + 1, oh) :: news)) (hoff : ∀ p ∈ news, p.1 ≠ L' + 1 ∧ p.1 ≠ L' + 1 + 1) (e1 : oh.data = .cell c1) (e2 : op.data = .cell c2) (hm : (D, o) ∈ news) (hro : RowAt D o rn) : wpAny (model PROG w) (A.deeper (envOfC qual scope L' 188 cdv)) (execs ((body.drop 2).take 2) (envOfC qual scope L' 188 cdv))
    (fun f s' => Hold (f = .next ∧ ∃ h tk hs th pa t21 ex, s' = { s with heap := h, toks := tk } ∧ Fr g L' h (lawMap l { row := some (.ref D), things := some (.ref T) }) ∧ News g L' h (ex ++ news) ∧ HostAt L' ex hs th pa t21 ∧ PyData.strOk hs = true ∧ hs.length ≤ 10)) (fun _ _ => False) s :=
  (eps_at (G := fun q => law_b2.Stm q.1 q.2.1 q.2.2.1 q.2.2.2.1 q.2.2.2.2.1 q.2.2.2.2.2.1 q.2.2.2.2.2.2.1 q.2.2.2.2.2.2.2.1 q.2.2.2.2.2.2.2.2.1 q.2.2.2.2.2.2.2.2.2.1 q.2.2.2.2.2.2.2.2.2.2.1 q.2.2.2.2.2.2.2.2.2.2.2.1 q.2.2.2.2.2.2.2.2.2.2.2.2.1 q.2.2.2.2.2.2.2.2.2.2.2.2.2.1 q.2.2.2.2.2.2.2.2.2.2.2.2.2.2.1 q.2.2.2.2.2.2.2.2.2.2.2.2.2.2.2.1 q.2.2.2.2.2.2.2.2.2.2.2.2.2.2.2.2.1 q.2.2.2.2.2.2.2.2.2.2.2.2.2.2.2.2.2.1 q.2.2.2.2.2.2.2.2.2.2.2.2.2.2.2.2.2.2.1 q.2.2.2.2.2.2.2.2.2.2.2.2.2.2.2.2.2.2.2.1 q.2.2.2.2.2.2.2.2.2.2.2.2.2.2.2.2.2.2.2.2) (c := law_b2.cst) rfl law_b2.it (w, A, E, s, base, mg, mb, mean, Q, outer, g, l, L', D, T, rn, news, oh, op, c1, c2) : law_b2.Stm w A E s base mg mb mean Q outer g l L' D T rn news oh op c1 c2) o body scope qual cdv hdef G hh hd hu F N hoff e1 e2 hm hro
end Mine
end

section
namespace Mine
set_option maxRecDepth 100000
set_option maxHeartbeats 1000000
set_option linter.all false
structure ThingsAt (w : World) (news : List (Addr × Obj)) (T : Addr) (tv : List Value) (ds : List PyData) : Prop where
  at_ : ∃ z, (T, lobj tv z) ∈ news
  each : ∃ O, Each w O tv ds ∧ ∀ p ∈ O, p ∈ news
  lo : 6 ≤ tv.length
  hi : tv.length ≤ 14
theorem ThingsAt.more {w : World} {news news' : List (Addr × Obj)} {T : Addr} {tv : List Value} {ds : List PyData} (x : ThingsAt w news T tv ds) (s : ∀ p ∈ news, p ∈ news') : ThingsAt w news' T tv ds :=
  ⟨let ⟨z, h⟩ := x.at_; ⟨z, s _ h⟩, let ⟨O, e, h⟩ := x.each; ⟨O, e, fun p hp => s p (h p hp)⟩, x.lo, x.hi⟩
theorem ThingsAt.item {w : World} {news : List (Addr × Obj)} {T : Addr} {tv : List Value} {ds : List PyData} (x : ThingsAt w news T tv ds) {i : Nat} {v : Value} {d : PyData} (hv : tv[i]? = some v) (hd : ds[i]? = some d) : (∃ a, v = .ref a) ∧ Part w news v d 4 400 := by
  obtain ⟨O, e, h⟩ := x.each
  exact ⟨(e.2 i v d hv hd).1, (e.2 i v d hv hd).2.more h⟩
theorem ThingsAt.length {w : World} {news : List (Addr × Obj)} {T : Addr} {tv : List Value} {ds : List PyData} (x : ThingsAt w news T tv ds) : tv.length = ds.length := by
  obtain ⟨O, e, h⟩ := x.each
  exact e.1
noncomputable def law_b4.Stm (w : World) (A : Around) (E : Value → Shared → Prop) (s : Shared) (base : Heap) (mg : Str → Option Value) (mb : Str → Option Value) (mean : ExcName → Option Value) (Q : Value → Shared → Prop) (outer : List Env) (g : Heap) (l : Addr) (L' : Addr) (D : Addr) (T : Addr) (tv : List Value) (ds : List PyData) (news : List (Addr × Obj)) : Prop := ∀ (body : List Stmt) (scope : Scope) (qual : Str) (cdv : Value) (hdef : LawDef w body scope qual cdv) (G : Gr w A base outer mean mg mb g) (hh : A.handled = none) (hd : A.depth + 10 < recursionLimit) (hu : A.units + 300 < cLine) (F : Fr g L' s.heap (lawMap l { row := some (.ref D), things := some (.ref T) })) (N : News g L' s.heap news) (th : ThingsAt w news T tv ds), wpAny (model PROG w) (A.deeper (envOfC qual scope L' 188 cdv)) (execs ((body.drop 4).take 1) (envOfC qual scope L' 188 cdv))
    (fun f s' => Hold (f = .next ∧ ∃ h tk W ts, s' = { s with heap := h, toks := tk } ∧ Fr g L' h (lawMap l { row := some (.ref D), things := some (.ref T), writings := some (.ref W) }) ∧ News g L' h ((W, LCg.lst (strValues ts)) :: news) ∧ ts.map (·.1) = ds.map (·.shown))) (fun _ _ => False) s
noncomputable def law_b4.cst : (World) × (Around) × (Value → Shared → Prop) × (Shared) × (Heap) × (Str → Option Value) × (Str → Option Value) × (ExcName → Option Value) × (Value → Shared → Prop) × (List Env) × (Heap) × (Addr) × (Addr) × (Addr) × (Addr) × (List Value) × (List PyData) × (List (Addr × Obj)) := eps (aWorld 0, {}, fun _ _ => True, {}, {}, fun _ => none, fun _ => none, fun _ => none, fun _ _ => True, [], {}, 0, 0, 0, 0, [], [], []) (fun q => law_b4.Stm q.1 q.2.1 q.2.2.1 q.2.2.2.1 q.2.2.2.2.1 q.2.2.2.2.2.1 q.2.2.2.2.2.2.1 q.2.2.2.2.2.2.2.1 q.2.2.2.2.2.2.2.2.1 q.2.2.2.2.2.2.2.2.2.1 q.2.2.2.2.2.2.2.2.2.2.1 q.2.2.2.2.2.2.2.2.2.2.2.1 q.2.2.2.2.2.2.2.2.2.2.2.2.1 q.2.2.2.2.2.2.2.2.2.2.2.2.2.1 q.2.2.2.2.2.2.2.2.2.2.2.2.2.2.1 q.2.2.2.2.2.2.2.2.2.2.2.2.2.2.2.1 q.2.2.2.2.2.2.2.2.2.2.2.2.2.2.2.2.1 q.2.2.2.2.2.2.2.2.2.2.2.2.2.2.2.2.2)
namespace law_b4
noncomputable def A : Around := cst.2.1
noncomputable def s : Shared := cst.2.2.2.1
noncomputable def g : Heap := cst.2.2.2.2.2.2.2.2.2.2.1
noncomputable def L' : Addr := cst.2.2.2.2.2.2.2.2.2.2.2.2.1
noncomputable def T : Addr := cst.2.2.2.2.2.2.2.2.2.2.2.2.2.2.1
noncomputable def tv : List Value := cst.2.2.2.2.2.2.2.2.2.2.2.2.2.2.2.1
noncomputable def ds : List PyData := cst.2.2.2.2.2.2.2.2.2.2.2.2.2.2.2.2.1
noncomputable def news : List (Addr × Obj) := cst.2.2.2.2.2.2.2.2.2.2.2.2.2.2.2.2.2
theorem it : Stm cst.1 A cst.2.2.1 s cst.2.2.2.2.1 cst.2.2.2.2.2.1 cst.2.2.2.2.2.2.1 cst.2.2.2.2.2.2.2.1 cst.2.2.2.2.2.2.2.2.1 cst.2.2.2.2.2.2.2.2.2.1 g cst.2.2.2.2.2.2.2.2.2.2.2.1 L' cst.2.2.2.2.2.2.2.2.2.2.2.2.2.1 T tv ds news := by
  intro body scope qual cdv hdef G hh hd hu F N th
  have hfill : (fun (_ : OpenLaw) (_ : Params → Frag) => True) PySem.Challenge.rw_nq0040_01 Mine.KC := by (k_fill; trivial)
  clear hfill
  w_top off
  obtain ⟨oc, od, name, params, dV, kV, doc, pm, an, ct, osl, hlk⟩ := hdef
  k_dflt (refine' lit_def ?li hlk ?_; (case li => k_is); k_whole)
  rintro rfl rfl rfl rfl
  dsimp only [List.drop, List.take]
  obtain ⟨B2, X2, T2, D2⟩ := G
  repeat' (first | ((with_reducible show wpAny _ _ (exec (PySem.Stmt.Assign (_ :: _) (PySem.Expr.ListComp _ _ _ _) _) _) _ _ _); refine Hold.it ?_) | walk_at "m1")
  refine ⟨?_⟩
  refine' assign_list (h₀ := g) (L := L') F rfl ?aa ?ab ?ac ?ad ?ae ?af ?ag ?ah ?ai ?aj
  case aa => with_unfolding_all rfl
  case ab => with_unfolding_all rfl
  case ac => decide
  case ad => rfl
  case ae => decide
  case af => rfl
  case ag => rfl
  case ah => rfl
  case aj => intro _; rfl
  case ai =>
    repeat' (first | ((with_reducible show wpAny _ _ (exec (PySem.Stmt.Assign (_ :: _) (PySem.Expr.ListComp _ _ _ _) _) _) _ _ _); refine Hold.it ?_) | walk_at "m1")
    obtain ⟨z, hT⟩ := th.at_
    refine ⟨T, tv.toArray, news, rfl, hh, F, N, .inr ⟨_, hT, rfl, _, rfl⟩, ?sz, fun g5 => rest_strs (ds.map (·.shown)) ?ln (.inr ⟨_, hT, rfl, _, rfl⟩) ?tu ?fi⟩
    case sz => have := th.hi; simp; omega
    case ln => simp [th.length]
    case tu =>
      intro i f v I oI C oC D6 us m₂ h6 tk6 hf hv hC hm F6 N6 off
      obtain ⟨d, hd6, rfl⟩ : ∃ d, ds[i]? = some d ∧ d.shown = f := by simpa using hf
      obtain ⟨⟨a, rfl⟩, P6⟩ := th.item (by simpa using hv) hd6
      clear F N
      repeat' (first | ((with_reducible show wpAny _ _ (exec (PySem.Stmt.Assign (_ :: _) (PySem.Expr.ListComp _ _ _ _) _) _) _ _ _); refine Hold.it ?_) | walk_at "m1")
      refine P6.writes h6 (fun p hp => (N6 p (.tail _ (.tail _ (.tail _ hp)))).1) (belowX B2 F6) (X2.keeps F6.keep) (T2.keeps F6.keep) hh ?_ (Kp.refl _) ?_
      · show A.depth + 1 + 4 < recursionLimit; omega
      intro t7 h7 tk7 k7
      exact ⟨_, _, _, rfl, rfl, k7⟩
    case fi =>
      intro ts hts
      unfold LCg.FinA
      intro D3 h3 tk3 F3 N3 _
      repeat' (first | ((with_reducible show wpAny _ _ (exec (PySem.Stmt.Assign (_ :: _) (PySem.Expr.ListComp _ _ _ _) _) _) _ _ _); refine Hold.it ?_) | walk_at "m1")
      refine ⟨rfl, h3, _, D3, ts, rfl, Fr.as F3 ?fr, N3, hts⟩
      case fr => (funext zz; by_cases hz0 : zz = PySem.Str.ofString "kept"; (focus (subst hz0; rfl)); by_cases hz1 : zz = PySem.Str.ofString "whole"; (focus (subst hz1; rfl)); by_cases hz2 : zz = PySem.Str.ofString "good"; (focus (subst hz2; rfl)); by_cases hz3 : zz = PySem.Str.ofString "turned"; (focus (subst hz3; rfl)); by_cases hz4 : zz = PySem.Str.ofString "spoiled"; (focus (subst hz4; rfl)); by_cases hz5 : zz = PySem.Str.ofString "shorts"; (focus (subst hz5; rfl)); by_cases hz6 : zz = PySem.Str.ofString "longs"; (focus (subst hz6; rfl)); by_cases hz7 : zz = PySem.Str.ofString "writings"; (focus (subst hz7; rfl)); by_cases hz8 : zz = PySem.Str.ofString "things"; (focus (subst hz8; rfl)); by_cases hz9 : zz = PySem.Str.ofString "row"; (focus (subst hz9; rfl)); by_cases hz10 : zz = PySem.Str.ofString "script"; (focus (subst hz10; rfl)); (try dsimp only); (try simp only [if_neg hz0]); (try simp only [if_neg hz1]); (try simp only [if_neg hz2]); (try simp only [if_neg hz3]); (try simp only [if_neg hz4]); (try simp only [if_neg hz5]); (try simp only [if_neg hz6]); (try simp only [if_neg hz7]); (try simp only [if_neg hz8]); (try simp only [if_neg hz9]); (try simp only [if_neg hz10]); (try rfl))
end law_b4
theorem law_b4 {w : World} {A : Around} {E : Value → Shared → Prop} {s : Shared} {base : Heap} {mg : Str → Option Value} {mb : Str → Option Value} {mean : ExcName → Option Value} {Q : Value → Shared → Prop} {outer : List Env} {g : Heap} {l : Addr} {L' : Addr} {D : Addr} {T : Addr} {tv : List Value} {ds : List PyData} {news : List (Addr × Obj)} {body : List Stmt} {scope : Scope} {qual : Str} {cdv : Value}
   (hdef : LawDef w body scope qual cdv) (G : Gr w A base outer mean mg mb g) (hh : A.handled = none) (hd : A.depth + 10 < recursionLimit) (hu : A.units + 300 < cLine) (F : Fr g L' s.heap (lawMap l { row := some (.ref D), things := some (.ref T) })) (N : News g L' s.heap news) (th : ThingsAt w news T tv ds) : wpAny (model PROG w) (A.deeper (envOfC qual scope L' 188 cdv)) (execs ((body.drop 4).take 1) (envOfC qual scope L' 188 cdv))
    (fun f s' => Hold (f = .next ∧ ∃ h tk W ts, s' = { s with heap := h, toks := tk } ∧ Fr g L' h (lawMap l { row := some (.ref D), things := some (.ref T), writings := some (.ref W) }) ∧ News g L' h ((W, LCg.lst (strValues ts)) :: news) ∧ ts.map (·.1) = ds.map (·.shown))) (fun _ _ => False) s :=
  (eps_at (G := fun q => law_b4.Stm q.1 q.2.1 q.2.2.1 q.2.2.2.1 q.2.2.2.2.1 q.2.2.2.2.2.1 q.2.2.2.2.2.2.1 q.2.2.2.2.2.2.2.1 q.2.2.2.2.2.2.2.2.1 q.2.2.2.2.2.2.2.2.2.1 q.2.2.2.2.2.2.2.2.2.2.1 q.2.2.2.2.2.2.2.2.2.2.2.1 q.2.2.2.2.2.2.2.2.2.2.2.2.1 q.2.2.2.2.2.2.2.2.2.2.2.2.2.1 q.2.2.2.2.2.2.2.2.2.2.2.2.2.2.1 q.2.2.2.2.2.2.2.2.2.2.2.2.2.2.2.1 q.2.2.2.2.2.2.2.2.2.2.2.2.2.2.2.2.1 q.2.2.2.2.2.2.2.2.2.2.2.2.2.2.2.2.2) (c := law_b4.cst) rfl law_b4.it (w, A, E, s, base, mg, mb, mean, Q, outer, g, l, L', D, T, tv, ds, news) : law_b4.Stm w A E s base mg mb mean Q outer g l L' D T tv ds news) body scope qual cdv hdef G hh hd hu F N th
end Mine
end

section
namespace Mine
set_option maxRecDepth 100000
set_option maxHeartbeats 1000000
set_option linter.all false
theorem strs_all (h : Heap) : ∀ ts : List (Str × Tok), ReadsAll h (strValues ts) ((ts.map (·.1)).map .str) []
  | [] => .nil
  | p :: r => ReadsAll.cons (Reads.str _ _) (strs_all h r)
theorem strs_reads {h : Heap} {D : Addr} {ts : List (Str × Tok)} {z : Nat} (e : h.get? D = some (lobj (strValues ts) z)) : Reads h (.ref D) (.list ((ts.map (·.1)).map .str)) [D] :=
  Reads.list e rfl rfl (by simpa using strs_all h ts)
theorem strs_shaped : ∀ {xs : List Str}, (∀ x ∈ xs, Asc x) → SeqAt.shaped (.list (xs.map .str)) = true := by
  intro xs hx
  have h1 : ∀ xs : List Str, (∀ x ∈ xs, Asc x) → PyData.canLayAll0 (xs.map .str) = true ∧ PyData.depthAll (xs.map .str) ≤ 1 := by
    intro xs
    induction xs with
    | nil => intro _; simp [PyData.canLayAll0, PyData.depthAll]
    | cons x r ih =>
      intro h
      have := ih fun y hy => h y (List.mem_cons_of_mem _ hy)
      simp only [List.map_cons, PyData.canLayAll0, PyData.depthAll, PyData.canLay0, PyData.depth, strOk_asc (h x (List.mem_cons_self ..)), this.1]
      exact ⟨rfl, by omega⟩
  have := h1 xs hx
  unfold SeqAt.shaped
  simp only [PyData.canLay0, PyData.depth, this.1]
  simp; omega
theorem strs_eqv : ∀ xs : List Str, PyData.eqv (.list (xs.map .str)) (.list (xs.map .str)) = true := by
  intro xs
  have : ∀ xs : List Str, PyData.eqvAll (xs.map .str) (xs.map .str) = true := by
    intro xs
    induction xs with
    | nil => simp [PyData.eqvAll]
    | cons x r ih => simp [PyData.eqvAll, PyData.eqv, ih]
  simp [PyData.eqv, this]
theorem ThingsAt.asc {w : World} {news : List (Addr × Obj)} {T : Addr} {tv : List Value} {ds : List PyData} (th : ThingsAt w news T tv ds) : ∀ x ∈ ds.map (·.shown), Asc x ∧ x.length ≤ 400 := fun x hx => by
  obtain ⟨i, hi, e⟩ := List.getElem_of_mem hx
  simp at hi
  have hd' : ds[i]? = some ds[i] := List.getElem?_eq_getElem hi
  have hv' : tv[i]? = some (tv[i]'(by rw [th.length]; exact hi)) := List.getElem?_eq_getElem _
  have := (th.item hv' hd').2
  simp at e
  rw [← e]; exact ⟨this.asc, this.len⟩
theorem short_asc {x : Str} (h : Asc x) : Asc (shortF x) := by
  unfold shortF
  split
  · exact h
  · exact asc_app (Asc.slice h _ _) (asc_of _ (by decide +kernel))
noncomputable def law_b5.Stm (w : World) (A : Around) (E : Value → Shared → Prop) (s : Shared) (base : Heap) (mg : Str → Option Value) (mb : Str → Option Value) (mean : ExcName → Option Value) (Q : Value → Shared → Prop) (outer : List Env) (g : Heap) (l : Addr) (L' : Addr) (D : Addr) (T : Addr) (W : Addr) (tv : List Value) (ds : List PyData) (ts : List (Str × Tok)) (news : List (Addr × Obj)) (z : Nat) : Prop := ∀ (body : List Stmt) (scope : Scope) (qual : Str) (cdv : Value) (hdef : LawDef w body scope qual cdv) (G : Gr w A base outer mean mg mb g) (hh : A.handled = none) (hgu : A.guards = some []) (hd : A.depth + 10 < recursionLimit) (hu : A.units + 300 < cLine) (F : Fr g L' s.heap (lawMap l { row := some (.ref D), things := some (.ref T), writings := some (.ref W) })) (N : News g L' s.heap news) (th : ThingsAt w news T tv ds) (hmod : ∀ p ∈ news, p.1 ≠ sysModules) (hW : (W, lobj (strValues ts) z) ∈ news) (hts : ts.map (·.1) = ds.map (·.shown)), wpAny (model PROG w) (A.deeper (envOfC qual scope L' 188 cdv)) (execs ((body.drop 5).take 1) (envOfC qual scope L' 188 cdv))
    (fun f s' => Hold (f = .next ∧ ∃ h tk, s' = { s with heap := h, toks := tk } ∧ Fr g L' h (lawMap l { row := some (.ref D), things := some (.ref T), writings := some (.ref W) }) ∧ News g L' h news)) (fun _ _ => False) s
noncomputable def law_b5.cst : (World) × (Around) × (Value → Shared → Prop) × (Shared) × (Heap) × (Str → Option Value) × (Str → Option Value) × (ExcName → Option Value) × (Value → Shared → Prop) × (List Env) × (Heap) × (Addr) × (Addr) × (Addr) × (Addr) × (Addr) × (List Value) × (List PyData) × (List (Str × Tok)) × (List (Addr × Obj)) × (Nat) := eps (aWorld 0, {}, fun _ _ => True, {}, {}, fun _ => none, fun _ => none, fun _ => none, fun _ _ => True, [], {}, 0, 0, 0, 0, 0, [], [], [], [], 0) (fun q => law_b5.Stm q.1 q.2.1 q.2.2.1 q.2.2.2.1 q.2.2.2.2.1 q.2.2.2.2.2.1 q.2.2.2.2.2.2.1 q.2.2.2.2.2.2.2.1 q.2.2.2.2.2.2.2.2.1 q.2.2.2.2.2.2.2.2.2.1 q.2.2.2.2.2.2.2.2.2.2.1 q.2.2.2.2.2.2.2.2.2.2.2.1 q.2.2.2.2.2.2.2.2.2.2.2.2.1 q.2.2.2.2.2.2.2.2.2.2.2.2.2.1 q.2.2.2.2.2.2.2.2.2.2.2.2.2.2.1 q.2.2.2.2.2.2.2.2.2.2.2.2.2.2.2.1 q.2.2.2.2.2.2.2.2.2.2.2.2.2.2.2.2.1 q.2.2.2.2.2.2.2.2.2.2.2.2.2.2.2.2.2.1 q.2.2.2.2.2.2.2.2.2.2.2.2.2.2.2.2.2.2.1 q.2.2.2.2.2.2.2.2.2.2.2.2.2.2.2.2.2.2.2.1 q.2.2.2.2.2.2.2.2.2.2.2.2.2.2.2.2.2.2.2.2)
namespace law_b5
noncomputable def A : Around := cst.2.1
noncomputable def s : Shared := cst.2.2.2.1
noncomputable def T : Addr := cst.2.2.2.2.2.2.2.2.2.2.2.2.2.2.1
noncomputable def tv : List Value := cst.2.2.2.2.2.2.2.2.2.2.2.2.2.2.2.2.1
noncomputable def ds : List PyData := cst.2.2.2.2.2.2.2.2.2.2.2.2.2.2.2.2.2.1
theorem it : Stm cst.1 A cst.2.2.1 s cst.2.2.2.2.1 cst.2.2.2.2.2.1 cst.2.2.2.2.2.2.1 cst.2.2.2.2.2.2.2.1 cst.2.2.2.2.2.2.2.2.1 cst.2.2.2.2.2.2.2.2.2.1 cst.2.2.2.2.2.2.2.2.2.2.1 cst.2.2.2.2.2.2.2.2.2.2.2.1 cst.2.2.2.2.2.2.2.2.2.2.2.2.1 cst.2.2.2.2.2.2.2.2.2.2.2.2.2.1 T cst.2.2.2.2.2.2.2.2.2.2.2.2.2.2.2.1 tv ds cst.2.2.2.2.2.2.2.2.2.2.2.2.2.2.2.2.2.2.1 cst.2.2.2.2.2.2.2.2.2.2.2.2.2.2.2.2.2.2.2.1 cst.2.2.2.2.2.2.2.2.2.2.2.2.2.2.2.2.2.2.2.2 := by
  intro body scope qual cdv hdef G hh hgu hd hu F N th hmod hW hts
  have hfill : (fun (_ : OpenLaw) (_ : Params → Frag) => True) PySem.Challenge.rw_nq0040_01 Mine.KC := by (k_fill; trivial)
  clear hfill
  w_top off
  obtain ⟨oc, od, name, params, dV, kV, doc, pm, an, ct, osl, hlk⟩ := hdef
  k_dflt (refine' lit_def ?li hlk ?_; (case li => k_is); k_whole)
  rintro rfl rfl rfl rfl
  dsimp only [List.drop, List.take]
  obtain ⟨B2, X2, T2, D2⟩ := G
  obtain ⟨zt, hT⟩ := th.at_
  have hasc : ∀ x ∈ ds.map (·.shown), Asc x := fun x hx => by
    obtain ⟨i, hi, e⟩ := List.getElem_of_mem hx
    simp at hi
    have hd' : ds[i]? = some ds[i] := List.getElem?_eq_getElem hi
    have hv' : tv[i]? = some (tv[i]'(by rw [th.length]; exact hi)) := List.getElem?_eq_getElem _
    have := (th.item hv' hd').2.asc
    simp at e
    rw [← e]; exact this
  repeat' (first | ((with_reducible show wpAny _ _ (compareOp CmpOp.NotEq (Value.ref _) (Value.ref _)) _ _ _); refine Hold.it ?_) | ((with_reducible show wpAny _ _ (eval (PySem.Expr.ListComp _ _ _ _) _) _ _ _); refine Hold.it ?_) | walk_at "m1")
  refine ⟨?_⟩
  refine' comp_list (x := Str.ofString "thing") (ax := T) (its := tv.toArray) F N hh (.inr ⟨_, hT, rfl, _, rfl⟩) ?lc (ds.map (·.shown)) ?ln ?li2 ?tu ?fi ?ld ?le ?lf ?lg ?lh ?ls
  case lc => have := th.hi; simp; omega
  case ln => simp [th.length]
  case li2 => intro Q' hQ'; repeat' (first | ((with_reducible show wpAny _ _ (compareOp CmpOp.NotEq (Value.ref _) (Value.ref _)) _ _ _); refine Hold.it ?_) | ((with_reducible show wpAny _ _ (eval (PySem.Expr.ListComp _ _ _ _) _) _ _ _); refine Hold.it ?_) | walk_at "m1"); exact hQ'
  case ld => with_unfolding_all rfl
  case le => decide
  case lf => rfl
  case lg => decide
  case lh => rfl
  case ls => intro _; rfl
  case tu =>
    intro i f v I oI C oC D6 us m₂ h6 tk6 hf hv hC hm F6 N6 off
    obtain ⟨d, hd6, rfl⟩ : ∃ d, ds[i]? = some d ∧ d.shown = f := by simpa using hf
    obtain ⟨⟨a, rfl⟩, P6⟩ := th.item (by simpa using hv) hd6
    obtain ⟨as, hr6, hin⟩ := P6.reads h6 (fun p hp => (N6 p (.tail _ (.tail _ (.tail _ hp)))).1)
    clear F N
    repeat' (first | ((with_reducible show wpAny _ _ (compareOp CmpOp.NotEq (Value.ref _) (Value.ref _)) _ _ _); refine Hold.it ?_) | ((with_reducible show wpAny _ _ (eval (PySem.Expr.ListComp _ _ _ _) _) _ _ _); refine Hold.it ?_) | walk_at "m1")
    refine safe1_spec (belowX B2 F6) (X2.keeps F6.keep) (T2.keeps F6.keep) hh ?_ ?_ ?_ hr6 P6.shows (fun _ hm => ?_) ?_ ?_ ?_
    · show A.depth + 1 + 1 < recursionLimit; omega
    · exact hgu
    · show A.units + 3 + 100 < cLine; omega
    · obtain ⟨p, hp, e⟩ := List.mem_map.mp (hin _ hm)
      exact hmod p hp e
    · have := P6.depth; omega
    · have := P6.len; omega
    intro t7 h7 tk7 k7
    exact ⟨_, _, _, rfl, rfl, k7⟩
  case fi =>
    intro ts2 D3 h3 tk3 hts2 F3 N3
    clear F N
    repeat' (first | ((with_reducible show wpAny _ _ (compareOp CmpOp.NotEq (Value.ref _) (Value.ref _)) _ _ _); refine Hold.it ?_) | ((with_reducible show wpAny _ _ (eval (PySem.Expr.ListComp _ _ _ _) _) _ _ _); refine Hold.it ?_) | walk_at "m1")
    refine ⟨?_⟩
    refine ne_dataH (strs_reads (N3.get (.head _))) (strs_reads (N3.get (.tail _ hW))) (strs_shaped (by rw [hts2]; exact hasc)) (strs_shaped (by rw [hts]; exact hasc)) ?_ ?_
    · show A.units + 3 + 64 < cLine; omega
    rw [hts2, hts, strs_eqv]
    simp only [Bool.not_true]
    repeat' (first | ((with_reducible show wpAny _ _ (compareOp CmpOp.NotEq (Value.ref _) (Value.ref _)) _ _ _); refine Hold.it ?_) | ((with_reducible show wpAny _ _ (eval (PySem.Expr.ListComp _ _ _ _) _) _ _ _); refine Hold.it ?_) | walk_at "m1")
    exact ⟨rfl, _, _, rfl, F3, fun p hp => N3 p (.tail _ hp)⟩
end law_b5
theorem law_b5 {w : World} {A : Around} {E : Value → Shared → Prop} {s : Shared} {base : Heap} {mg : Str → Option Value} {mb : Str → Option Value} {mean : ExcName → Option Value} {Q : Value → Shared → Prop} {outer : List Env} {g : Heap} {l : Addr} {L' : Addr} {D : Addr} {T : Addr} {W : Addr} {tv : List Value} {ds : List PyData} {ts : List (Str × Tok)} {news : List (Addr × Obj)} {z : Nat} {body : List Stmt} {scope : Scope} {qual : Str} {cdv : Value}
   (hdef : LawDef w body scope qual cdv) (G : Gr w A base outer mean mg mb g) (hh : A.handled = none) (hgu : A.guards = some []) (hd : A.depth + 10 < recursionLimit) (hu : A.units + 300 < cLine) (F : Fr g L' s.heap (lawMap l { row := some (.ref D), things := some (.ref T), writings := some (.ref W) })) (N : News g L' s.heap news) (th : ThingsAt w news T tv ds) (hmod : ∀ p ∈ news, p.1 ≠ sysModules) (hW : (W, lobj (strValues ts) z) ∈ news) (hts : ts.map (·.1) = ds.map (·.shown)) : wpAny (model PROG w) (A.deeper (envOfC qual scope L' 188 cdv)) (execs ((body.drop 5).take 1) (envOfC qual scope L' 188 cdv))
    (fun f s' => Hold (f = .next ∧ ∃ h tk, s' = { s with heap := h, toks := tk } ∧ Fr g L' h (lawMap l { row := some (.ref D), things := some (.ref T), writings := some (.ref W) }) ∧ News g L' h news)) (fun _ _ => False) s :=
  (eps_at (G := fun q => law_b5.Stm q.1 q.2.1 q.2.2.1 q.2.2.2.1 q.2.2.2.2.1 q.2.2.2.2.2.1 q.2.2.2.2.2.2.1 q.2.2.2.2.2.2.2.1 q.2.2.2.2.2.2.2.2.1 q.2.2.2.2.2.2.2.2.2.1 q.2.2.2.2.2.2.2.2.2.2.1 q.2.2.2.2.2.2.2.2.2.2.2.1 q.2.2.2.2.2.2.2.2.2.2.2.2.1 q.2.2.2.2.2.2.2.2.2.2.2.2.2.1 q.2.2.2.2.2.2.2.2.2.2.2.2.2.2.1 q.2.2.2.2.2.2.2.2.2.2.2.2.2.2.2.1 q.2.2.2.2.2.2.2.2.2.2.2.2.2.2.2.2.1 q.2.2.2.2.2.2.2.2.2.2.2.2.2.2.2.2.2.1 q.2.2.2.2.2.2.2.2.2.2.2.2.2.2.2.2.2.2.1 q.2.2.2.2.2.2.2.2.2.2.2.2.2.2.2.2.2.2.2.1 q.2.2.2.2.2.2.2.2.2.2.2.2.2.2.2.2.2.2.2.2) (c := law_b5.cst) rfl law_b5.it (w, A, E, s, base, mg, mb, mean, Q, outer, g, l, L', D, T, W, tv, ds, ts, news, z) : law_b5.Stm w A E s base mg mb mean Q outer g l L' D T W tv ds ts news z) body scope qual cdv hdef G hh hgu hd hu F N th hmod hW hts
noncomputable def law_b6.Stm (w : World) (A : Around) (E : Value → Shared → Prop) (s : Shared) (base : Heap) (mg : Str → Option Value) (mb : Str → Option Value) (mean : ExcName → Option Value) (Q : Value → Shared → Prop) (outer : List Env) (g : Heap) (l : Addr) (L' : Addr) (D : Addr) (T : Addr) (W : Addr) (tv : List Value) (ds : List PyData) (ts : List (Str × Tok)) (news : List (Addr × Obj)) (z : Nat) : Prop := ∀ (body : List Stmt) (scope : Scope) (qual : Str) (cdv : Value) (hdef : LawDef w body scope qual cdv) (G : Gr w A base outer mean mg mb g) (hh : A.handled = none) (hgu : A.guards = some []) (hd : A.depth + 10 < recursionLimit) (hu : A.units + 300 < cLine) (F : Fr g L' s.heap (lawMap l { row := some (.ref D), things := some (.ref T), writings := some (.ref W) })) (N : News g L' s.heap news) (th : ThingsAt w news T tv ds) (hmod : ∀ p ∈ news, p.1 ≠ sysModules) (hW : (W, lobj (strValues ts) z) ∈ news) (hts : ts.map (·.1) = ds.map (·.shown)), wpAny (model PROG w) (A.deeper (envOfC qual scope L' 188 cdv)) (execs ((body.drop 6).take 1) (envOfC qual scope L' 188 cdv))
    (fun f s' => Hold (f = .next ∧ ∃ h tk, s' = { s with heap := h, toks := tk } ∧ Fr g L' h (lawMap l { row := some (.ref D), things := some (.ref T), writings := some (.ref W) }) ∧ News g L' h news)) (fun _ _ => False) s
noncomputable def law_b6.cst : (World) × (Around) × (Value → Shared → Prop) × (Shared) × (Heap) × (Str → Option Value) × (Str → Option Value) × (ExcName → Option Value) × (Value → Shared → Prop) × (List Env) × (Heap) × (Addr) × (Addr) × (Addr) × (Addr) × (Addr) × (List Value) × (List PyData) × (List (Str × Tok)) × (List (Addr × Obj)) × (Nat) := eps (aWorld 0, {}, fun _ _ => True, {}, {}, fun _ => none, fun _ => none, fun _ => none, fun _ _ => True, [], {}, 0, 0, 0, 0, 0, [], [], [], [], 0) (fun q => law_b6.Stm q.1 q.2.1 q.2.2.1 q.2.2.2.1 q.2.2.2.2.1 q.2.2.2.2.2.1 q.2.2.2.2.2.2.1 q.2.2.2.2.2.2.2.1 q.2.2.2.2.2.2.2.2.1 q.2.2.2.2.2.2.2.2.2.1 q.2.2.2.2.2.2.2.2.2.2.1 q.2.2.2.2.2.2.2.2.2.2.2.1 q.2.2.2.2.2.2.2.2.2.2.2.2.1 q.2.2.2.2.2.2.2.2.2.2.2.2.2.1 q.2.2.2.2.2.2.2.2.2.2.2.2.2.2.1 q.2.2.2.2.2.2.2.2.2.2.2.2.2.2.2.1 q.2.2.2.2.2.2.2.2.2.2.2.2.2.2.2.2.1 q.2.2.2.2.2.2.2.2.2.2.2.2.2.2.2.2.2.1 q.2.2.2.2.2.2.2.2.2.2.2.2.2.2.2.2.2.2.1 q.2.2.2.2.2.2.2.2.2.2.2.2.2.2.2.2.2.2.2.1 q.2.2.2.2.2.2.2.2.2.2.2.2.2.2.2.2.2.2.2.2)
namespace law_b6
noncomputable def A : Around := cst.2.1
noncomputable def s : Shared := cst.2.2.2.1
noncomputable def mg : Str → Option Value := cst.2.2.2.2.2.1
noncomputable def T : Addr := cst.2.2.2.2.2.2.2.2.2.2.2.2.2.2.1
noncomputable def W : Addr := cst.2.2.2.2.2.2.2.2.2.2.2.2.2.2.2.1
noncomputable def tv : List Value := cst.2.2.2.2.2.2.2.2.2.2.2.2.2.2.2.2.1
noncomputable def ds : List PyData := cst.2.2.2.2.2.2.2.2.2.2.2.2.2.2.2.2.2.1
noncomputable def ts : List (Str × Tok) := cst.2.2.2.2.2.2.2.2.2.2.2.2.2.2.2.2.2.2.1
theorem it : Stm cst.1 A cst.2.2.1 s cst.2.2.2.2.1 mg cst.2.2.2.2.2.2.1 cst.2.2.2.2.2.2.2.1 cst.2.2.2.2.2.2.2.2.1 cst.2.2.2.2.2.2.2.2.2.1 cst.2.2.2.2.2.2.2.2.2.2.1 cst.2.2.2.2.2.2.2.2.2.2.2.1 cst.2.2.2.2.2.2.2.2.2.2.2.2.1 cst.2.2.2.2.2.2.2.2.2.2.2.2.2.1 T W tv ds ts cst.2.2.2.2.2.2.2.2.2.2.2.2.2.2.2.2.2.2.2.1 cst.2.2.2.2.2.2.2.2.2.2.2.2.2.2.2.2.2.2.2.2 := by
  intro body scope qual cdv hdef G hh hgu hd hu F N th hmod hW hts
  have hfill : (fun (_ : OpenLaw) (_ : Params → Frag) => True) PySem.Challenge.rw_nq0040_01 Mine.KC := by (k_fill; trivial)
  clear hfill
  w_top off
  obtain ⟨oc, od, name, params, dV, kV, doc, pm, an, ct, osl, hlk⟩ := hdef
  k_dflt (refine' lit_def ?li hlk ?_; (case li => k_is); k_whole)
  rintro rfl rfl rfl rfl
  dsimp only [List.drop, List.take]
  obtain ⟨B2, X2, T2, D2⟩ := G
  obtain ⟨zt, hT⟩ := th.at_
  have hasc := th.asc
  have hsasc : ∀ x ∈ (ds.map (·.shown)).map shortF, Asc x := fun x hx => by
    obtain ⟨y, hy, rfl⟩ := List.mem_map.mp hx
    exact short_asc (hasc y hy).1
  repeat' (first | ((with_reducible show wpAny _ _ (compareOp CmpOp.NotEq (Value.ref _) (Value.ref _)) _ _ _); refine Hold.it ?_) | ((with_reducible show wpAny _ _ (eval (PySem.Expr.ListComp _ _ _ _) _) _ _ _); refine Hold.it ?_) | walk_at "m1")
  refine ⟨?_⟩
  refine' comp_list (x := Str.ofString "thing") (ax := T) (its := tv.toArray) F N hh (.inr ⟨_, hT, rfl, _, rfl⟩) ?lc ((ds.map (·.shown)).map shortF) ?ln ?li2 ?tu ?fi ?ld ?le ?lf ?lg ?lh ?ls
  case lc => have := th.hi; simp; omega
  case ln => simp [th.length]
  case li2 => intro Q' hQ'; repeat' (first | ((with_reducible show wpAny _ _ (compareOp CmpOp.NotEq (Value.ref _) (Value.ref _)) _ _ _); refine Hold.it ?_) | ((with_reducible show wpAny _ _ (eval (PySem.Expr.ListComp _ _ _ _) _) _ _ _); refine Hold.it ?_) | walk_at "m1"); exact hQ'
  case ld => with_unfolding_all rfl
  case le => decide
  case lf => rfl
  case lg => decide
  case lh => rfl
  case ls => intro _; rfl
  case tu =>
    intro i f v I oI C oC D6 us m₂ h6 tk6 hf hv hC hm F6 N6 off
    obtain ⟨d, hd6, rfl⟩ : ∃ d, ds[i]? = some d ∧ shortF d.shown = f := by simpa using hf
    obtain ⟨⟨a, rfl⟩, P6⟩ := th.item (by simpa using hv) hd6
    obtain ⟨as, hr6, hin⟩ := P6.reads h6 (fun p hp => (N6 p (.tail _ (.tail _ (.tail _ hp)))).1)
    clear F N
    repeat' (first | ((with_reducible show wpAny _ _ (compareOp CmpOp.NotEq (Value.ref _) (Value.ref _)) _ _ _); refine Hold.it ?_) | ((with_reducible show wpAny _ _ (eval (PySem.Expr.ListComp _ _ _ _) _) _ _ _); refine Hold.it ?_) | walk_at "m1")
    refine safe_spec (belowX B2 F6) (X2.keeps F6.keep) (T2.keeps F6.keep) hh ?_ ?_ ?_ hr6 P6.shows (fun _ hm => ?_) ?_ ?_ ?_
    · show A.depth + 1 + 1 < recursionLimit; omega
    · exact hgu
    · show A.units + 3 + 100 < cLine; omega
    · obtain ⟨p, hp, e⟩ := List.mem_map.mp (hin _ hm)
      exact hmod p hp e
    · have := P6.depth; omega
    · have := P6.len; omega
    intro t7 h7 tk7 k7
    exact ⟨_, _, _, rfl, rfl, k7⟩
  case fi =>
    intro ts2 D3 h3 tk3 hts2 F3 N3
    clear F N
    repeat' (first | ((with_reducible show wpAny _ _ (compareOp CmpOp.NotEq (Value.ref _) (Value.ref _)) _ _ _); refine Hold.it ?_) | ((with_reducible show wpAny _ _ (eval (PySem.Expr.ListComp _ _ _ _) _) _ _ _); refine Hold.it ?_) | walk_at "m1")
    refine ⟨?_⟩
    refine' comp_list (x := Str.ofString "written") (ax := W) (its := (strValues ts).toArray) F3 N3 hh (.inr ⟨_, .tail _ hW, rfl, _, rfl⟩) ?mc ((ds.map (·.shown)).map shortF) ?mn ?mi2 ?mtu ?mfi ?md ?me ?mf ?mg ?mh ?ms
    case mc => have := th.hi; have := th.length; have := congrArg List.length hts; simp [strValues] at *; omega
    case mn => have := congrArg List.length hts; simp [strValues] at *; omega
    case mi2 => intro Q' hQ'; repeat' (first | ((with_reducible show wpAny _ _ (compareOp CmpOp.NotEq (Value.ref _) (Value.ref _)) _ _ _); refine Hold.it ?_) | ((with_reducible show wpAny _ _ (eval (PySem.Expr.ListComp _ _ _ _) _) _ _ _); refine Hold.it ?_) | walk_at "m1"); exact hQ'
    case md => with_unfolding_all rfl
    case me => decide
    case mf => rfl
    case mg => decide
    case mh => rfl
    case ms => intro _; rfl
    case mtu =>
      intro i f v I oI C oC D6 us m₂ h6 tk6 hf hv hC hm F6 N6 off
      obtain ⟨x, u, hx, rfl⟩ := strValues_get (show (strValues ts)[i]? = some v by simpa using hv)
      rw [hts] at hx
      obtain rfl : shortF x = f := by
        rw [List.getElem?_map, hx] at hf
        simpa using hf
      have hxa := hasc x (List.mem_of_getElem? hx)
      clear F3 N3
      repeat' (first | ((with_reducible show wpAny _ _ (compareOp CmpOp.NotEq (Value.ref _) (Value.ref _)) _ _ _); refine Hold.it ?_) | ((with_reducible show wpAny _ _ (eval (PySem.Expr.ListComp _ _ _ _) _) _ _ _); refine Hold.it ?_) | walk_at "m1")
      refine short_spec (belowX B2 F6) (X2.keeps F6.keep) (T2.keeps F6.keep) hh ?_ (by omega) ?_
      · show A.depth + 1 + 1 < recursionLimit; omega
      intro t7 h7 tk7 k7
      exact ⟨_, _, _, rfl, rfl, k7⟩
    case mfi =>
      intro ts4 D5 h5 tk5 hts4 F5 N5
      clear F3 N3
      repeat' (first | ((with_reducible show wpAny _ _ (compareOp CmpOp.NotEq (Value.ref _) (Value.ref _)) _ _ _); refine Hold.it ?_) | ((with_reducible show wpAny _ _ (eval (PySem.Expr.ListComp _ _ _ _) _) _ _ _); refine Hold.it ?_) | walk_at "m1")
      refine ⟨?_⟩
      refine ne_dataH (strs_reads (N5.get (.tail _ (.head _)))) (strs_reads (N5.get (.head _))) (strs_shaped (by rw [hts2]; exact hsasc)) (strs_shaped (by rw [hts4]; exact hsasc)) ?_ ?_
      · show A.units + 3 + 64 < cLine; omega
      rw [hts2, hts4, strs_eqv]
      simp only [Bool.not_true]
      repeat' (first | ((with_reducible show wpAny _ _ (compareOp CmpOp.NotEq (Value.ref _) (Value.ref _)) _ _ _); refine Hold.it ?_) | ((with_reducible show wpAny _ _ (eval (PySem.Expr.ListComp _ _ _ _) _) _ _ _); refine Hold.it ?_) | walk_at "m1")
      exact ⟨rfl, _, _, rfl, F5, fun p hp => N5 p (.tail _ (.tail _ hp))⟩
end law_b6
theorem law_b6 {w : World} {A : Around} {E : Value → Shared → Prop} {s : Shared} {base : Heap} {mg : Str → Option Value} {mb : Str → Option Value} {mean : ExcName → Option Value} {Q : Value → Shared → Prop} {outer : List Env} {g : Heap} {l : Addr} {L' : Addr} {D : Addr} {T : Addr} {W : Addr} {tv : List Value} {ds : List PyData} {ts : List (Str × Tok)} {news : List (Addr × Obj)} {z : Nat} {body : List Stmt} {scope : Scope} {qual : Str} {cdv : Value}
   (hdef : LawDef w body scope qual cdv) (G : Gr w A base outer mean mg mb g) (hh : A.handled = none) (hgu : A.guards = some []) (hd : A.depth + 10 < recursionLimit) (hu : A.units + 300 < cLine) (F : Fr g L' s.heap (lawMap l { row := some (.ref D), things := some (.ref T), writings := some (.ref W) })) (N : News g L' s.heap news) (th : ThingsAt w news T tv ds) (hmod : ∀ p ∈ news, p.1 ≠ sysModules) (hW : (W, lobj (strValues ts) z) ∈ news) (hts : ts.map (·.1) = ds.map (·.shown)) : wpAny (model PROG w) (A.deeper (envOfC qual scope L' 188 cdv)) (execs ((body.drop 6).take 1) (envOfC qual scope L' 188 cdv))
    (fun f s' => Hold (f = .next ∧ ∃ h tk, s' = { s with heap := h, toks := tk } ∧ Fr g L' h (lawMap l { row := some (.ref D), things := some (.ref T), writings := some (.ref W) }) ∧ News g L' h news)) (fun _ _ => False) s :=
  (eps_at (G := fun q => law_b6.Stm q.1 q.2.1 q.2.2.1 q.2.2.2.1 q.2.2.2.2.1 q.2.2.2.2.2.1 q.2.2.2.2.2.2.1 q.2.2.2.2.2.2.2.1 q.2.2.2.2.2.2.2.2.1 q.2.2.2.2.2.2.2.2.2.1 q.2.2.2.2.2.2.2.2.2.2.1 q.2.2.2.2.2.2.2.2.2.2.2.1 q.2.2.2.2.2.2.2.2.2.2.2.2.1 q.2.2.2.2.2.2.2.2.2.2.2.2.2.1 q.2.2.2.2.2.2.2.2.2.2.2.2.2.2.1 q.2.2.2.2.2.2.2.2.2.2.2.2.2.2.2.1 q.2.2.2.2.2.2.2.2.2.2.2.2.2.2.2.2.1 q.2.2.2.2.2.2.2.2.2.2.2.2.2.2.2.2.2.1 q.2.2.2.2.2.2.2.2.2.2.2.2.2.2.2.2.2.2.1 q.2.2.2.2.2.2.2.2.2.2.2.2.2.2.2.2.2.2.2.1 q.2.2.2.2.2.2.2.2.2.2.2.2.2.2.2.2.2.2.2.2) (c := law_b6.cst) rfl law_b6.it (w, A, E, s, base, mg, mb, mean, Q, outer, g, l, L', D, T, W, tv, ds, ts, news, z) : law_b6.Stm w A E s base mg mb mean Q outer g l L' D T W tv ds ts news z) body scope qual cdv hdef G hh hgu hd hu F N th hmod hW hts
end Mine
end

section
namespace Mine
set_option maxRecDepth 100000
set_option maxHeartbeats 1000000
set_option linter.all false
noncomputable def longF (x : Str) : Str := Str.ofString "229 " ++ x ++ Str.ofString " (9)"
noncomputable def cutF (x : Str) : Str := Str.ofString "229 " ++ shortF x
theorem short_len {x : Str} (h : x.length ≤ 400) : (shortF x).length ≤ 415 := by
  unfold shortF
  split
  · omega
  · rw [strLen_append]
    have e : (Str.ofString " [truncated]...").length = 15 := by decide +kernel
    have := Txt.slice_le x none (some 80)
    omega
noncomputable def law_b7.Stm (w : World) (A : Around) (E : Value → Shared → Prop) (s : Shared) (base : Heap) (mg : Str → Option Value) (mb : Str → Option Value) (mean : ExcName → Option Value) (Q : Value → Shared → Prop) (outer : List Env) (g : Heap) (l : Addr) (L' : Addr) (D : Addr) (T : Addr) (W : Addr) (tv : List Value) (ds : List PyData) (news : List (Addr × Obj)) : Prop := ∀ (body : List Stmt) (scope : Scope) (qual : Str) (cdv : Value) (hdef : LawDef w body scope qual cdv) (G : Gr w A base outer mean mg mb g) (hh : A.handled = none) (hgu : A.guards = some []) (hd : A.depth + 10 < recursionLimit) (hu : A.units + 300 < cLine) (F : Fr g L' s.heap (lawMap l { row := some (.ref D), things := some (.ref T), writings := some (.ref W) })) (N : News g L' s.heap news) (th : ThingsAt w news T tv ds) (hmod : ∀ p ∈ news, p.1 ≠ sysModules), wpAny (model PROG w) (A.deeper (envOfC qual scope L' 188 cdv)) (execs ((body.drop 7).take 1) (envOfC qual scope L' 188 cdv))
    (fun f s' => Hold (f = .next ∧ ∃ h tk J ts, s' = { s with heap := h, toks := tk } ∧ Fr g L' h (lawMap l { row := some (.ref D), things := some (.ref T), writings := some (.ref W), longs := some (.ref J) }) ∧ News g L' h ((J, LCg.lst (strValues ts)) :: news) ∧ ts.map (·.1) = (ds.map (·.shown)).map longF)) (fun _ _ => False) s
noncomputable def law_b7.cst : (World) × (Around) × (Value → Shared → Prop) × (Shared) × (Heap) × (Str → Option Value) × (Str → Option Value) × (ExcName → Option Value) × (Value → Shared → Prop) × (List Env) × (Heap) × (Addr) × (Addr) × (Addr) × (Addr) × (Addr) × (List Value) × (List PyData) × (List (Addr × Obj)) := eps (aWorld 0, {}, fun _ _ => True, {}, {}, fun _ => none, fun _ => none, fun _ => none, fun _ _ => True, [], {}, 0, 0, 0, 0, 0, [], [], []) (fun q => law_b7.Stm q.1 q.2.1 q.2.2.1 q.2.2.2.1 q.2.2.2.2.1 q.2.2.2.2.2.1 q.2.2.2.2.2.2.1 q.2.2.2.2.2.2.2.1 q.2.2.2.2.2.2.2.2.1 q.2.2.2.2.2.2.2.2.2.1 q.2.2.2.2.2.2.2.2.2.2.1 q.2.2.2.2.2.2.2.2.2.2.2.1 q.2.2.2.2.2.2.2.2.2.2.2.2.1 q.2.2.2.2.2.2.2.2.2.2.2.2.2.1 q.2.2.2.2.2.2.2.2.2.2.2.2.2.2.1 q.2.2.2.2.2.2.2.2.2.2.2.2.2.2.2.1 q.2.2.2.2.2.2.2.2.2.2.2.2.2.2.2.2.1 q.2.2.2.2.2.2.2.2.2.2.2.2.2.2.2.2.2.1 q.2.2.2.2.2.2.2.2.2.2.2.2.2.2.2.2.2.2)
namespace law_b7
noncomputable def A : Around := cst.2.1
noncomputable def s : Shared := cst.2.2.2.1
noncomputable def g : Heap := cst.2.2.2.2.2.2.2.2.2.2.1
noncomputable def L' : Addr := cst.2.2.2.2.2.2.2.2.2.2.2.2.1
noncomputable def T : Addr := cst.2.2.2.2.2.2.2.2.2.2.2.2.2.2.1
noncomputable def tv : List Value := cst.2.2.2.2.2.2.2.2.2.2.2.2.2.2.2.2.1
noncomputable def ds : List PyData := cst.2.2.2.2.2.2.2.2.2.2.2.2.2.2.2.2.2.1
noncomputable def news : List (Addr × Obj) := cst.2.2.2.2.2.2.2.2.2.2.2.2.2.2.2.2.2.2
theorem it : Stm cst.1 A cst.2.2.1 s cst.2.2.2.2.1 cst.2.2.2.2.2.1 cst.2.2.2.2.2.2.1 cst.2.2.2.2.2.2.2.1 cst.2.2.2.2.2.2.2.2.1 cst.2.2.2.2.2.2.2.2.2.1 g cst.2.2.2.2.2.2.2.2.2.2.2.1 L' cst.2.2.2.2.2.2.2.2.2.2.2.2.2.1 T cst.2.2.2.2.2.2.2.2.2.2.2.2.2.2.2.1 tv ds news := by
  intro body scope qual cdv hdef G hh hgu hd hu F N th hmod
  have hfill : (fun (_ : OpenLaw) (_ : Params → Frag) => True) PySem.Challenge.rw_nq0040_01 Mine.KC := by (k_fill; trivial)
  clear hfill
  w_top off
  obtain ⟨oc, od, name, params, dV, kV, doc, pm, an, ct, osl, hlk⟩ := hdef
  k_dflt (refine' lit_def ?li hlk ?_; (case li => k_is); k_whole)
  rintro rfl rfl rfl rfl
  dsimp only [List.drop, List.take]
  obtain ⟨B2, X2, T2, D2⟩ := G
  repeat' (first | ((with_reducible show wpAny _ _ (exec (PySem.Stmt.Assign (_ :: _) (PySem.Expr.ListComp _ _ _ _) _) _) _ _ _); refine Hold.it ?_) | walk_at "m1")
  refine ⟨?_⟩
  refine' assign_list (h₀ := g) (L := L') F rfl ?aa ?ab ?ac ?ad ?ae ?af ?ag ?ah ?ai ?aj
  case aa => with_unfolding_all rfl
  case ab => with_unfolding_all rfl
  case ac => decide
  case ad => rfl
  case ae => decide
  case af => rfl
  case ag => rfl
  case ah => rfl
  case aj => intro _; rfl
  case ai =>
    repeat' (first | ((with_reducible show wpAny _ _ (exec (PySem.Stmt.Assign (_ :: _) (PySem.Expr.ListComp _ _ _ _) _) _) _ _ _); refine Hold.it ?_) | walk_at "m1")
    obtain ⟨z, hT⟩ := th.at_
    refine ⟨T, tv.toArray, news, rfl, hh, F, N, .inr ⟨_, hT, rfl, _, rfl⟩, ?sz, fun g5 => rest_strs ((ds.map (·.shown)).map longF) ?ln (.inr ⟨_, hT, rfl, _, rfl⟩) ?tu ?fi⟩
    case sz => have := th.hi; simp; omega
    case ln => simp [th.length]
    case tu =>
      intro i f v I oI C oC D6 us m₂ h6 tk6 hf hv hC hm F6 N6 off
      obtain ⟨d, hd6, rfl⟩ : ∃ d, ds[i]? = some d ∧ longF d.shown = f := by simpa using hf
      obtain ⟨⟨a, rfl⟩, P6⟩ := th.item (by simpa using hv) hd6
      obtain ⟨as, hr6, hin⟩ := P6.reads h6 (fun p hp => (N6 p (.tail _ (.tail _ (.tail _ hp)))).1)
      clear F N
      repeat' (first | ((with_reducible show wpAny _ _ (exec (PySem.Stmt.Assign (_ :: _) (PySem.Expr.ListComp _ _ _ _) _) _) _ _ _); refine Hold.it ?_) | walk_at "m1")
      refine safe1_spec (belowX B2 F6) (X2.keeps F6.keep) (T2.keeps F6.keep) hh ?_ ?_ ?_ hr6 P6.shows (fun _ hm => ?_) ?_ ?_ ?_
      · show A.depth + 1 + 1 < recursionLimit; omega
      · exact hgu
      · show A.units + 3 + 100 < cLine; omega
      · obtain ⟨p, hp, e⟩ := List.mem_map.mp (hin _ hm)
        exact hmod p hp e
      · have := P6.depth; omega
      · have := P6.len; omega
      intro t7 h7 tk7 k7
      have hx := P6.len
      have hx2 := short_len hx
      have F7 := F6.keeps k7
      have N7 := N6.grown k7
      clear F6 N6
      repeat' (first | ((with_reducible show wpAny _ _ (exec (PySem.Stmt.Assign (_ :: _) (PySem.Expr.ListComp _ _ _ _) _) _) _ _ _); refine Hold.it ?_) | walk_at "m1")
      exact ⟨_, _, _, rfl, rfl, k7⟩
    case fi =>
      intro ts hts
      unfold LCg.FinA
      intro D3 h3 tk3 F3 N3 _
      repeat' (first | ((with_reducible show wpAny _ _ (exec (PySem.Stmt.Assign (_ :: _) (PySem.Expr.ListComp _ _ _ _) _) _) _ _ _); refine Hold.it ?_) | walk_at "m1")
      refine ⟨rfl, h3, _, D3, ts, rfl, Fr.as F3 ?fr, N3, hts⟩
      case fr => (funext zz; by_cases hz0 : zz = PySem.Str.ofString "kept"; (focus (subst hz0; rfl)); by_cases hz1 : zz = PySem.Str.ofString "whole"; (focus (subst hz1; rfl)); by_cases hz2 : zz = PySem.Str.ofString "good"; (focus (subst hz2; rfl)); by_cases hz3 : zz = PySem.Str.ofString "turned"; (focus (subst hz3; rfl)); by_cases hz4 : zz = PySem.Str.ofString "spoiled"; (focus (subst hz4; rfl)); by_cases hz5 : zz = PySem.Str.ofString "shorts"; (focus (subst hz5; rfl)); by_cases hz6 : zz = PySem.Str.ofString "longs"; (focus (subst hz6; rfl)); by_cases hz7 : zz = PySem.Str.ofString "writings"; (focus (subst hz7; rfl)); by_cases hz8 : zz = PySem.Str.ofString "things"; (focus (subst hz8; rfl)); by_cases hz9 : zz = PySem.Str.ofString "row"; (focus (subst hz9; rfl)); by_cases hz10 : zz = PySem.Str.ofString "script"; (focus (subst hz10; rfl)); (try dsimp only); (try simp only [if_neg hz0]); (try simp only [if_neg hz1]); (try simp only [if_neg hz2]); (try simp only [if_neg hz3]); (try simp only [if_neg hz4]); (try simp only [if_neg hz5]); (try simp only [if_neg hz6]); (try simp only [if_neg hz7]); (try simp only [if_neg hz8]); (try simp only [if_neg hz9]); (try simp only [if_neg hz10]); (try rfl))
end law_b7
theorem law_b7 {w : World} {A : Around} {E : Value → Shared → Prop} {s : Shared} {base : Heap} {mg : Str → Option Value} {mb : Str → Option Value} {mean : ExcName → Option Value} {Q : Value → Shared → Prop} {outer : List Env} {g : Heap} {l : Addr} {L' : Addr} {D : Addr} {T : Addr} {W : Addr} {tv : List Value} {ds : List PyData} {news : List (Addr × Obj)} {body : List Stmt} {scope : Scope} {qual : Str} {cdv : Value}
   (hdef : LawDef w body scope qual cdv) (G : Gr w A base outer mean mg mb g) (hh : A.handled = none) (hgu : A.guards = some []) (hd : A.depth + 10 < recursionLimit) (hu : A.units + 300 < cLine) (F : Fr g L' s.heap (lawMap l { row := some (.ref D), things := some (.ref T), writings := some (.ref W) })) (N : News g L' s.heap news) (th : ThingsAt w news T tv ds) (hmod : ∀ p ∈ news, p.1 ≠ sysModules) : wpAny (model PROG w) (A.deeper (envOfC qual scope L' 188 cdv)) (execs ((body.drop 7).take 1) (envOfC qual scope L' 188 cdv))
    (fun f s' => Hold (f = .next ∧ ∃ h tk J ts, s' = { s with heap := h, toks := tk } ∧ Fr g L' h (lawMap l { row := some (.ref D), things := some (.ref T), writings := some (.ref W), longs := some (.ref J) }) ∧ News g L' h ((J, LCg.lst (strValues ts)) :: news) ∧ ts.map (·.1) = (ds.map (·.shown)).map longF)) (fun _ _ => False) s :=
  (eps_at (G := fun q => law_b7.Stm q.1 q.2.1 q.2.2.1 q.2.2.2.1 q.2.2.2.2.1 q.2.2.2.2.2.1 q.2.2.2.2.2.2.1 q.2.2.2.2.2.2.2.1 q.2.2.2.2.2.2.2.2.1 q.2.2.2.2.2.2.2.2.2.1 q.2.2.2.2.2.2.2.2.2.2.1 q.2.2.2.2.2.2.2.2.2.2.2.1 q.2.2.2.2.2.2.2.2.2.2.2.2.1 q.2.2.2.2.2.2.2.2.2.2.2.2.2.1 q.2.2.2.2.2.2.2.2.2.2.2.2.2.2.1 q.2.2.2.2.2.2.2.2.2.2.2.2.2.2.2.1 q.2.2.2.2.2.2.2.2.2.2.2.2.2.2.2.2.1 q.2.2.2.2.2.2.2.2.2.2.2.2.2.2.2.2.2.1 q.2.2.2.2.2.2.2.2.2.2.2.2.2.2.2.2.2.2) (c := law_b7.cst) rfl law_b7.it (w, A, E, s, base, mg, mb, mean, Q, outer, g, l, L', D, T, W, tv, ds, news) : law_b7.Stm w A E s base mg mb mean Q outer g l L' D T W tv ds news) body scope qual cdv hdef G hh hgu hd hu F N th hmod
noncomputable def law_b8.Stm (w : World) (A : Around) (E : Value → Shared → Prop) (s : Shared) (base : Heap) (mg : Str → Option Value) (mb : Str → Option Value) (mean : ExcName → Option Value) (Q : Value → Shared → Prop) (outer : List Env) (g : Heap) (l : Addr) (L' : Addr) (D : Addr) (T : Addr) (W : Addr) (LO : Addr) (tv : List Value) (ds : List PyData) (news : List (Addr × Obj)) : Prop := ∀ (body : List Stmt) (scope : Scope) (qual : Str) (cdv : Value) (hdef : LawDef w body scope qual cdv) (G : Gr w A base outer mean mg mb g) (hh : A.handled = none) (hgu : A.guards = some []) (hd : A.depth + 10 < recursionLimit) (hu : A.units + 300 < cLine) (F : Fr g L' s.heap (lawMap l { row := some (.ref D), things := some (.ref T), writings := some (.ref W), longs := some (.ref LO) })) (N : News g L' s.heap news) (th : ThingsAt w news T tv ds) (hmod : ∀ p ∈ news, p.1 ≠ sysModules), wpAny (model PROG w) (A.deeper (envOfC qual scope L' 188 cdv)) (execs ((body.drop 8).take 1) (envOfC qual scope L' 188 cdv))
    (fun f s' => Hold (f = .next ∧ ∃ h tk J ts, s' = { s with heap := h, toks := tk } ∧ Fr g L' h (lawMap l { row := some (.ref D), things := some (.ref T), writings := some (.ref W), longs := some (.ref LO), shorts := some (.ref J) }) ∧ News g L' h ((J, LCg.lst (strValues ts)) :: news) ∧ ts.map (·.1) = (ds.map (·.shown)).map cutF)) (fun _ _ => False) s
noncomputable def law_b8.cst : (World) × (Around) × (Value → Shared → Prop) × (Shared) × (Heap) × (Str → Option Value) × (Str → Option Value) × (ExcName → Option Value) × (Value → Shared → Prop) × (List Env) × (Heap) × (Addr) × (Addr) × (Addr) × (Addr) × (Addr) × (Addr) × (List Value) × (List PyData) × (List (Addr × Obj)) := eps (aWorld 0, {}, fun _ _ => True, {}, {}, fun _ => none, fun _ => none, fun _ => none, fun _ _ => True, [], {}, 0, 0, 0, 0, 0, 0, [], [], []) (fun q => law_b8.Stm q.1 q.2.1 q.2.2.1 q.2.2.2.1 q.2.2.2.2.1 q.2.2.2.2.2.1 q.2.2.2.2.2.2.1 q.2.2.2.2.2.2.2.1 q.2.2.2.2.2.2.2.2.1 q.2.2.2.2.2.2.2.2.2.1 q.2.2.2.2.2.2.2.2.2.2.1 q.2.2.2.2.2.2.2.2.2.2.2.1 q.2.2.2.2.2.2.2.2.2.2.2.2.1 q.2.2.2.2.2.2.2.2.2.2.2.2.2.1 q.2.2.2.2.2.2.2.2.2.2.2.2.2.2.1 q.2.2.2.2.2.2.2.2.2.2.2.2.2.2.2.1 q.2.2.2.2.2.2.2.2.2.2.2.2.2.2.2.2.1 q.2.2.2.2.2.2.2.2.2.2.2.2.2.2.2.2.2.1 q.2.2.2.2.2.2.2.2.2.2.2.2.2.2.2.2.2.2.1 q.2.2.2.2.2.2.2.2.2.2.2.2.2.2.2.2.2.2.2)
namespace law_b8
noncomputable def A : Around := cst.2.1
noncomputable def s : Shared := cst.2.2.2.1
noncomputable def g : Heap := cst.2.2.2.2.2.2.2.2.2.2.1
noncomputable def L' : Addr := cst.2.2.2.2.2.2.2.2.2.2.2.2.1
noncomputable def T : Addr := cst.2.2.2.2.2.2.2.2.2.2.2.2.2.2.1
noncomputable def tv : List Value := cst.2.2.2.2.2.2.2.2.2.2.2.2.2.2.2.2.2.1
noncomputable def ds : List PyData := cst.2.2.2.2.2.2.2.2.2.2.2.2.2.2.2.2.2.2.1
noncomputable def news : List (Addr × Obj) := cst.2.2.2.2.2.2.2.2.2.2.2.2.2.2.2.2.2.2.2
theorem it : Stm cst.1 A cst.2.2.1 s cst.2.2.2.2.1 cst.2.2.2.2.2.1 cst.2.2.2.2.2.2.1 cst.2.2.2.2.2.2.2.1 cst.2.2.2.2.2.2.2.2.1 cst.2.2.2.2.2.2.2.2.2.1 g cst.2.2.2.2.2.2.2.2.2.2.2.1 L' cst.2.2.2.2.2.2.2.2.2.2.2.2.2.1 T cst.2.2.2.2.2.2.2.2.2.2.2.2.2.2.2.1 cst.2.2.2.2.2.2.2.2.2.2.2.2.2.2.2.2.1 tv ds news := by
  intro body scope qual cdv hdef G hh hgu hd hu F N th hmod
  have hfill : (fun (_ : OpenLaw) (_ : Params → Frag) => True) PySem.Challenge.rw_nq0040_01 Mine.KC := by (k_fill; trivial)
  clear hfill
  w_top off
  obtain ⟨oc, od, name, params, dV, kV, doc, pm, an, ct, osl, hlk⟩ := hdef
  k_dflt (refine' lit_def ?li hlk ?_; (case li => k_is); k_whole)
  rintro rfl rfl rfl rfl
  dsimp only [List.drop, List.take]
  obtain ⟨B2, X2, T2, D2⟩ := G
  repeat' (first | ((with_reducible show wpAny _ _ (exec (PySem.Stmt.Assign (_ :: _) (PySem.Expr.ListComp _ _ _ _) _) _) _ _ _); refine Hold.it ?_) | walk_at "m1")
  refine ⟨?_⟩
  refine' assign_list (h₀ := g) (L := L') F rfl ?aa ?ab ?ac ?ad ?ae ?af ?ag ?ah ?ai ?aj
  case aa => with_unfolding_all rfl
  case ab => with_unfolding_all rfl
  case ac => decide
  case ad => rfl
  case ae => decide
  case af => rfl
  case ag => rfl
  case ah => rfl
  case aj => intro _; rfl
  case ai =>
    repeat' (first | ((with_reducible show wpAny _ _ (exec (PySem.Stmt.Assign (_ :: _) (PySem.Expr.ListComp _ _ _ _) _) _) _ _ _); refine Hold.it ?_) | walk_at "m1")
    obtain ⟨z, hT⟩ := th.at_
    refine ⟨T, tv.toArray, news, rfl, hh, F, N, .inr ⟨_, hT, rfl, _, rfl⟩, ?sz, fun g5 => rest_strs ((ds.map (·.shown)).map cutF) ?ln (.inr ⟨_, hT, rfl, _, rfl⟩) ?tu ?fi⟩
    case sz => have := th.hi; simp; omega
    case ln => simp [th.length]
    case tu =>
      intro i f v I oI C oC D6 us m₂ h6 tk6 hf hv hC hm F6 N6 off
      obtain ⟨d, hd6, rfl⟩ : ∃ d, ds[i]? = some d ∧ cutF d.shown = f := by simpa using hf
      obtain ⟨⟨a, rfl⟩, P6⟩ := th.item (by simpa using hv) hd6
      obtain ⟨as, hr6, hin⟩ := P6.reads h6 (fun p hp => (N6 p (.tail _ (.tail _ (.tail _ hp)))).1)
      clear F N
      repeat' (first | ((with_reducible show wpAny _ _ (exec (PySem.Stmt.Assign (_ :: _) (PySem.Expr.ListComp _ _ _ _) _) _) _ _ _); refine Hold.it ?_) | walk_at "m1")
      refine safe_spec (belowX B2 F6) (X2.keeps F6.keep) (T2.keeps F6.keep) hh ?_ ?_ ?_ hr6 P6.shows (fun _ hm => ?_) ?_ ?_ ?_
      · show A.depth + 1 + 1 < recursionLimit; omega
      · exact hgu
      · show A.units + 3 + 100 < cLine; omega
      · obtain ⟨p, hp, e⟩ := List.mem_map.mp (hin _ hm)
        exact hmod p hp e
      · have := P6.depth; omega
      · have := P6.len; omega
      intro t7 h7 tk7 k7
      have hx := P6.len
      have hx2 := short_len hx
      have F7 := F6.keeps k7
      have N7 := N6.grown k7
      clear F6 N6
      repeat' (first | ((with_reducible show wpAny _ _ (exec (PySem.Stmt.Assign (_ :: _) (PySem.Expr.ListComp _ _ _ _) _) _) _ _ _); refine Hold.it ?_) | walk_at "m1")
      exact ⟨_, _, _, rfl, rfl, k7⟩
    case fi =>
      intro ts hts
      unfold LCg.FinA
      intro D3 h3 tk3 F3 N3 _
      repeat' (first | ((with_reducible show wpAny _ _ (exec (PySem.Stmt.Assign (_ :: _) (PySem.Expr.ListComp _ _ _ _) _) _) _ _ _); refine Hold.it ?_) | walk_at "m1")
      refine ⟨rfl, h3, _, D3, ts, rfl, Fr.as F3 ?fr, N3, hts⟩
      case fr => (funext zz; by_cases hz0 : zz = PySem.Str.ofString "kept"; (focus (subst hz0; rfl)); by_cases hz1 : zz = PySem.Str.ofString "whole"; (focus (subst hz1; rfl)); by_cases hz2 : zz = PySem.Str.ofString "good"; (focus (subst hz2; rfl)); by_cases hz3 : zz = PySem.Str.ofString "turned"; (focus (subst hz3; rfl)); by_cases hz4 : zz = PySem.Str.ofString "spoiled"; (focus (subst hz4; rfl)); by_cases hz5 : zz = PySem.Str.ofString "shorts"; (focus (subst hz5; rfl)); by_cases hz6 : zz = PySem.Str.ofString "longs"; (focus (subst hz6; rfl)); by_cases hz7 : zz = PySem.Str.ofString "writings"; (focus (subst hz7; rfl)); by_cases hz8 : zz = PySem.Str.ofString "things"; (focus (subst hz8; rfl)); by_cases hz9 : zz = PySem.Str.ofString "row"; (focus (subst hz9; rfl)); by_cases hz10 : zz = PySem.Str.ofString "script"; (focus (subst hz10; rfl)); (try dsimp only); (try simp only [if_neg hz0]); (try simp only [if_neg hz1]); (try simp only [if_neg hz2]); (try simp only [if_neg hz3]); (try simp only [if_neg hz4]); (try simp only [if_neg hz5]); (try simp only [if_neg hz6]); (try simp only [if_neg hz7]); (try simp only [if_neg hz8]); (try simp only [if_neg hz9]); (try simp only [if_neg hz10]); (try rfl))
end law_b8
theorem law_b8 {w : World} {A : Around} {E : Value → Shared → Prop} {s : Shared} {base : Heap} {mg : Str → Option Value} {mb : Str → Option Value} {mean : ExcName → Option Value} {Q : Value → Shared → Prop} {outer : List Env} {g : Heap} {l : Addr} {L' : Addr} {D : Addr} {T : Addr} {W : Addr} {LO : Addr} {tv : List Value} {ds : List PyData} {news : List (Addr × Obj)} {body : List Stmt} {scope : Scope} {qual : Str} {cdv : Value}
   (hdef : LawDef w body scope qual cdv) (G : Gr w A base outer mean mg mb g) (hh : A.handled = none) (hgu : A.guards = some []) (hd : A.depth + 10 < recursionLimit) (hu : A.units + 300 < cLine) (F : Fr g L' s.heap (lawMap l { row := some (.ref D), things := some (.ref T), writings := some (.ref W), longs := some (.ref LO) })) (N : News g L' s.heap news) (th : ThingsAt w news T tv ds) (hmod : ∀ p ∈ news, p.1 ≠ sysModules) : wpAny (model PROG w) (A.deeper (envOfC qual scope L' 188 cdv)) (execs ((body.drop 8).take 1) (envOfC qual scope L' 188 cdv))
    (fun f s' => Hold (f = .next ∧ ∃ h tk J ts, s' = { s with heap := h, toks := tk } ∧ Fr g L' h (lawMap l { row := some (.ref D), things := some (.ref T), writings := some (.ref W), longs := some (.ref LO), shorts := some (.ref J) }) ∧ News g L' h ((J, LCg.lst (strValues ts)) :: news) ∧ ts.map (·.1) = (ds.map (·.shown)).map cutF)) (fun _ _ => False) s :=
  (eps_at (G := fun q => law_b8.Stm q.1 q.2.1 q.2.2.1 q.2.2.2.1 q.2.2.2.2.1 q.2.2.2.2.2.1 q.2.2.2.2.2.2.1 q.2.2.2.2.2.2.2.1 q.2.2.2.2.2.2.2.2.1 q.2.2.2.2.2.2.2.2.2.1 q.2.2.2.2.2.2.2.2.2.2.1 q.2.2.2.2.2.2.2.2.2.2.2.1 q.2.2.2.2.2.2.2.2.2.2.2.2.1 q.2.2.2.2.2.2.2.2.2.2.2.2.2.1 q.2.2.2.2.2.2.2.2.2.2.2.2.2.2.1 q.2.2.2.2.2.2.2.2.2.2.2.2.2.2.2.1 q.2.2.2.2.2.2.2.2.2.2.2.2.2.2.2.2.1 q.2.2.2.2.2.2.2.2.2.2.2.2.2.2.2.2.2.1 q.2.2.2.2.2.2.2.2.2.2.2.2.2.2.2.2.2.2.1 q.2.2.2.2.2.2.2.2.2.2.2.2.2.2.2.2.2.2.2) (c := law_b8.cst) rfl law_b8.it (w, A, E, s, base, mg, mb, mean, Q, outer, g, l, L', D, T, W, LO, tv, ds, news) : law_b8.Stm w A E s base mg mb mean Q outer g l L' D T W LO tv ds news) body scope qual cdv hdef G hh hgu hd hu F N th hmod
end Mine
end

section
namespace Mine
set_option maxRecDepth 100000
set_option maxHeartbeats 1000000
set_option linter.all false
theorem ask0 {prog : Program} {w : World} {A : Around} {E : Value → Shared → Prop} {s : Shared} {Q : Value → Shared → Prop} {g : Heap} {L D : Addr} {ts : List (Str × Tok)} {z : Nat} {news : List (Addr × Obj)} {value slice : Expr} {t : Tok} (N : News g L s.heap news) (hm : (D, lobj (strValues ts) z) ∈ news) (h1 : 0 < ts.length) (hn : ts.length ≤ 1000) (h : ∀ x t', (ts.map (·.1))[0]? = some x → Q (.str x t') s)
    (hs : subscripted slice false (.ref D) (.int 0 t) = operate [.ref D, .int 0 t] (getItem (.ref D) (.int 0 t)) := by rfl) : wpAny (model prog w) A (subscriptTail value slice (.ref D) (.int 0 t)) Q E s :=
  item_strs (k := 0) ⟨_, (N _ hm).1, rfl, _, rfl⟩ hn h1 h hs
noncomputable def law_b9.Stm (w : World) (A : Around) (E : Value → Shared → Prop) (s : Shared) (base : Heap) (mg : Str → Option Value) (mb : Str → Option Value) (mean : ExcName → Option Value) (Q : Value → Shared → Prop) (outer : List Env) (g : Heap) (l : Addr) (L' : Addr) (D : Addr) (T : Addr) (W : Addr) (LO : Addr) (SH : Addr) (ds : List PyData) (ts : List (Str × Tok)) (z : Nat) (news : List (Addr × Obj)) : Prop := ∀ (body : List Stmt) (scope : Scope) (qual : Str) (cdv : Value) (hdef : LawDef w body scope qual cdv) (G : Gr w A base outer mean mg mb g) (hh : A.handled = none) (hd : A.depth + 10 < recursionLimit) (hu : A.units + 300 < cLine) (F : Fr g L' s.heap (lawMap l { row := some (.ref D), things := some (.ref T), writings := some (.ref W), longs := some (.ref LO), shorts := some (.ref SH) })) (N : News g L' s.heap news) (hW : (W, lobj (strValues ts) z) ∈ news) (hasc : ∀ x ∈ ts.map (·.1), Asc x ∧ x.length ≤ 400) (hn1 : 0 < ts.length) (hn : ts.length ≤ 100), wpAny (model PROG w) (A.deeper (envOfC qual scope L' 188 cdv)) (execs ((body.drop 9).take 1) (envOfC qual scope L' 188 cdv))
    (fun f s' => Hold (f = .next ∧ ∃ h tk J sp zz, s' = { s with heap := h, toks := tk } ∧ Fr g L' h (lawMap l { row := some (.ref D), things := some (.ref T), writings := some (.ref W), longs := some (.ref LO), shorts := some (.ref SH), spoiled := some (.ref J) }) ∧ News g L' h ((J, lobj (strValues sp) zz) :: news) ∧ (∀ x ∈ sp.map (·.1), Asc x ∧ x.length ≤ 500) ∧ sp.length = 8)) (fun _ _ => False) s
noncomputable def law_b9.cst : (World) × (Around) × (Value → Shared → Prop) × (Shared) × (Heap) × (Str → Option Value) × (Str → Option Value) × (ExcName → Option Value) × (Value → Shared → Prop) × (List Env) × (Heap) × (Addr) × (Addr) × (Addr) × (Addr) × (Addr) × (Addr) × (Addr) × (List PyData) × (List (Str × Tok)) × (Nat) × (List (Addr × Obj)) := eps (aWorld 0, {}, fun _ _ => True, {}, {}, fun _ => none, fun _ => none, fun _ => none, fun _ _ => True, [], {}, 0, 0, 0, 0, 0, 0, 0, [], [], 0, []) (fun q => law_b9.Stm q.1 q.2.1 q.2.2.1 q.2.2.2.1 q.2.2.2.2.1 q.2.2.2.2.2.1 q.2.2.2.2.2.2.1 q.2.2.2.2.2.2.2.1 q.2.2.2.2.2.2.2.2.1 q.2.2.2.2.2.2.2.2.2.1 q.2.2.2.2.2.2.2.2.2.2.1 q.2.2.2.2.2.2.2.2.2.2.2.1 q.2.2.2.2.2.2.2.2.2.2.2.2.1 q.2.2.2.2.2.2.2.2.2.2.2.2.2.1 q.2.2.2.2.2.2.2.2.2.2.2.2.2.2.1 q.2.2.2.2.2.2.2.2.2.2.2.2.2.2.2.1 q.2.2.2.2.2.2.2.2.2.2.2.2.2.2.2.2.1 q.2.2.2.2.2.2.2.2.2.2.2.2.2.2.2.2.2.1 q.2.2.2.2.2.2.2.2.2.2.2.2.2.2.2.2.2.2.1 q.2.2.2.2.2.2.2.2.2.2.2.2.2.2.2.2.2.2.2.1 q.2.2.2.2.2.2.2.2.2.2.2.2.2.2.2.2.2.2.2.2.1 q.2.2.2.2.2.2.2.2.2.2.2.2.2.2.2.2.2.2.2.2.2)
namespace law_b9
noncomputable def s : Shared := cst.2.2.2.1
noncomputable def ts : List (Str × Tok) := cst.2.2.2.2.2.2.2.2.2.2.2.2.2.2.2.2.2.2.2.1
theorem it : Stm cst.1 cst.2.1 cst.2.2.1 s cst.2.2.2.2.1 cst.2.2.2.2.2.1 cst.2.2.2.2.2.2.1 cst.2.2.2.2.2.2.2.1 cst.2.2.2.2.2.2.2.2.1 cst.2.2.2.2.2.2.2.2.2.1 cst.2.2.2.2.2.2.2.2.2.2.1 cst.2.2.2.2.2.2.2.2.2.2.2.1 cst.2.2.2.2.2.2.2.2.2.2.2.2.1 cst.2.2.2.2.2.2.2.2.2.2.2.2.2.1 cst.2.2.2.2.2.2.2.2.2.2.2.2.2.2.1 cst.2.2.2.2.2.2.2.2.2.2.2.2.2.2.2.1 cst.2.2.2.2.2.2.2.2.2.2.2.2.2.2.2.2.1 cst.2.2.2.2.2.2.2.2.2.2.2.2.2.2.2.2.2.1 cst.2.2.2.2.2.2.2.2.2.2.2.2.2.2.2.2.2.2.1 ts cst.2.2.2.2.2.2.2.2.2.2.2.2.2.2.2.2.2.2.2.2.1 cst.2.2.2.2.2.2.2.2.2.2.2.2.2.2.2.2.2.2.2.2.2 := by
  intro body scope qual cdv hdef G hh hd hu F N hW hasc hn1 hn
  have hfill : (fun (_ : OpenLaw) (_ : Params → Frag) => True) PySem.Challenge.rw_nq0040_01 Mine.KC := by (k_fill; trivial)
  clear hfill
  w_top off
  obtain ⟨oc, od, name, params, dV, kV, doc, pm, an, ct, osl, hlk⟩ := hdef
  k_dflt (refine' lit_def ?li hlk ?_; (case li => k_is); k_whole)
  rintro rfl rfl rfl rfl
  dsimp only [List.drop, List.take]
  obtain ⟨B2, X2, T2, D2⟩ := G
  have hb : ∀ x, (ts.map (·.1))[0]? = some x → x.length ≤ 400 := fun x hx => (hasc x (List.mem_of_getElem? hx)).2
  repeat' (first | ((with_reducible show wpAny _ _ (subscriptTail _ _ _ _) _ _ _); refine' ask0 ?ia ?ib ?ic ?id ?_ ?ie; (case ie => rfl); (case ia => assumption); (case ib => assumption); (case ic => omega); (case id => omega); intro _ _ _) | walk_at "m1")
  rename_i y ty hy
  obtain ⟨hya, hyl⟩ := hasc y (List.mem_of_getElem? hy)
  clear hb
  repeat' (first | ((with_reducible show wpAny _ _ (subscriptTail _ _ _ _) _ _ _); refine' ask0 ?ia ?ib ?ic ?id ?_ ?ie; (case ie => rfl); (case ia => assumption); (case ib => assumption); (case ic => omega); (case id => omega); intro _ _ _) | walk_at "m1")
  rename_i J h5 l5 h6 F6 N6
  refine' ⟨rfl, _, _, J, [(_, _), (_, _), (_, _), (_, _), (_, _), (_, _), (_, _), (_, _)], 0, rfl, Fr.as F6 ?fr, N6, ?al, rfl⟩
  case fr => (funext zz; by_cases hz0 : zz = PySem.Str.ofString "kept"; (focus (subst hz0; rfl)); by_cases hz1 : zz = PySem.Str.ofString "whole"; (focus (subst hz1; rfl)); by_cases hz2 : zz = PySem.Str.ofString "good"; (focus (subst hz2; rfl)); by_cases hz3 : zz = PySem.Str.ofString "turned"; (focus (subst hz3; rfl)); by_cases hz4 : zz = PySem.Str.ofString "spoiled"; (focus (subst hz4; rfl)); by_cases hz5 : zz = PySem.Str.ofString "shorts"; (focus (subst hz5; rfl)); by_cases hz6 : zz = PySem.Str.ofString "longs"; (focus (subst hz6; rfl)); by_cases hz7 : zz = PySem.Str.ofString "writings"; (focus (subst hz7; rfl)); by_cases hz8 : zz = PySem.Str.ofString "things"; (focus (subst hz8; rfl)); by_cases hz9 : zz = PySem.Str.ofString "row"; (focus (subst hz9; rfl)); by_cases hz10 : zz = PySem.Str.ofString "script"; (focus (subst hz10; rfl)); (try dsimp only); (try simp only [if_neg hz0]); (try simp only [if_neg hz1]); (try simp only [if_neg hz2]); (try simp only [if_neg hz3]); (try simp only [if_neg hz4]); (try simp only [if_neg hz5]); (try simp only [if_neg hz6]); (try simp only [if_neg hz7]); (try simp only [if_neg hz8]); (try simp only [if_neg hz9]); (try simp only [if_neg hz10]); (try rfl))
  case al =>
    have h227 : (Str.ofString "227 ").length = 4 := by decide +kernel
    have ho : ∀ x, ascB x = true → Asc x ∧ x.length ≤ 500 := fun x h => ⟨(ok_of h).1, by have := (ok_of h).2; omega⟩
    simp only [List.map_cons, List.map_nil]
    refine all_cons ⟨asc_app (asc_of _ (by decide +kernel)) hya, by rw [strLen_append]; omega⟩ ?_
    repeat (first | exact List.forall_mem_nil _ | refine all_cons (ho _ (by decide +kernel)) ?_)
end law_b9
theorem law_b9 {w : World} {A : Around} {E : Value → Shared → Prop} {s : Shared} {base : Heap} {mg : Str → Option Value} {mb : Str → Option Value} {mean : ExcName → Option Value} {Q : Value → Shared → Prop} {outer : List Env} {g : Heap} {l : Addr} {L' : Addr} {D : Addr} {T : Addr} {W : Addr} {LO : Addr} {SH : Addr} {ds : List PyData} {ts : List (Str × Tok)} {z : Nat} {news : List (Addr × Obj)} {body : List Stmt} {scope : Scope} {qual : Str} {cdv : Value}
   (hdef : LawDef w body scope qual cdv) (G : Gr w A base outer mean mg mb g) (hh : A.handled = none) (hd : A.depth + 10 < recursionLimit) (hu : A.units + 300 < cLine) (F : Fr g L' s.heap (lawMap l { row := some (.ref D), things := some (.ref T), writings := some (.ref W), longs := some (.ref LO), shorts := some (.ref SH) })) (N : News g L' s.heap news) (hW : (W, lobj (strValues ts) z) ∈ news) (hasc : ∀ x ∈ ts.map (·.1), Asc x ∧ x.length ≤ 400) (hn1 : 0 < ts.length) (hn : ts.length ≤ 100) : wpAny (model PROG w) (A.deeper (envOfC qual scope L' 188 cdv)) (execs ((body.drop 9).take 1) (envOfC qual scope L' 188 cdv))
    (fun f s' => Hold (f = .next ∧ ∃ h tk J sp zz, s' = { s with heap := h, toks := tk } ∧ Fr g L' h (lawMap l { row := some (.ref D), things := some (.ref T), writings := some (.ref W), longs := some (.ref LO), shorts := some (.ref SH), spoiled := some (.ref J) }) ∧ News g L' h ((J, lobj (strValues sp) zz) :: news) ∧ (∀ x ∈ sp.map (·.1), Asc x ∧ x.length ≤ 500) ∧ sp.length = 8)) (fun _ _ => False) s :=
  (eps_at (G := fun q => law_b9.Stm q.1 q.2.1 q.2.2.1 q.2.2.2.1 q.2.2.2.2.1 q.2.2.2.2.2.1 q.2.2.2.2.2.2.1 q.2.2.2.2.2.2.2.1 q.2.2.2.2.2.2.2.2.1 q.2.2.2.2.2.2.2.2.2.1 q.2.2.2.2.2.2.2.2.2.2.1 q.2.2.2.2.2.2.2.2.2.2.2.1 q.2.2.2.2.2.2.2.2.2.2.2.2.1 q.2.2.2.2.2.2.2.2.2.2.2.2.2.1 q.2.2.2.2.2.2.2.2.2.2.2.2.2.2.1 q.2.2.2.2.2.2.2.2.2.2.2.2.2.2.2.1 q.2.2.2.2.2.2.2.2.2.2.2.2.2.2.2.2.1 q.2.2.2.2.2.2.2.2.2.2.2.2.2.2.2.2.2.1 q.2.2.2.2.2.2.2.2.2.2.2.2.2.2.2.2.2.2.1 q.2.2.2.2.2.2.2.2.2.2.2.2.2.2.2.2.2.2.2.1 q.2.2.2.2.2.2.2.2.2.2.2.2.2.2.2.2.2.2.2.2.1 q.2.2.2.2.2.2.2.2.2.2.2.2.2.2.2.2.2.2.2.2.2) (c := law_b9.cst) rfl law_b9.it (w, A, E, s, base, mg, mb, mean, Q, outer, g, l, L', D, T, W, LO, SH, ds, ts, z, news) : law_b9.Stm w A E s base mg mb mean Q outer g l L' D T W LO SH ds ts z news) body scope qual cdv hdef G hh hd hu F N hW hasc hn1 hn
end Mine
end

section
namespace Mine
set_option maxRecDepth 100000
set_option maxHeartbeats 1000000
set_option linter.all false
theorem size_2000 : (2000 : Nat) ≤ sizeLine := by decide +kernel
theorem slice_in {prog : Program} {w : World} {A : Around} {E : Value → Shared → Prop} {s : Shared} {h₀ : Heap} {L l : Addr} {m : Str → Option Value} {news : List (Addr × Obj)} {value slice : PySem.Expr} {vs : List Value} {z : Nat} {vl vu : Value} {lo hi : Option Int} {Q : Value → Shared → Prop}
    (F : Fr h₀ L s.heap m) (N : News h₀ L s.heap news) (hm : (l, lobj vs z) ∈ news) (hn : vs.length ≤ 1000) (pl : IsPart vl lo) (pu : IsPart vu hi)
    (h : ∀ D h', Fr h₀ L h' m → News h₀ L h' ((D, lobj (kms_pick vs lo hi) 0) :: news) → (∀ p ∈ news, p.1 < D) → Q (.ref D) { s with heap := h' })
    (hs : subscripted slice false (.ref l) (.ref s.heap.objs.size) = operate [.ref s.heap.objs.size, .ref l] (getItem (.ref l) (.ref s.heap.objs.size))) (ht : ∀ r, letTemporaryGo value (.ref l) r = pure ()) :
    wpAny (model prog w) A (subscriptTail value slice (.ref l) (.ref s.heap.objs.size)) Q E { s with heap := s.heap.push { cls := .type "slice", data := .fields #[vl, vu, .none] } } :=
  kms_slice_lit (its := vs.toArray) F N ⟨_, (N _ hm).1, rfl, _, rfl⟩ pl pu rfl (fun D h' F' N' l1 => h D h' F' N' l1) hs ht (by rw [List.size_toArray]; exact Nat.le_trans hn (Nat.le_trans (by decide) size_2000))
theorem add_in {prog : Program} {w : World} {A : Around} {E : Value → Shared → Prop} {s : Shared} {h₀ : Heap} {L l b : Addr} {m : Str → Option Value} {news : List (Addr × Obj)} {vs ws : List Value} {z z2 : Nat} {Q : Value → Shared → Prop}
    (F : Fr h₀ L s.heap m) (N : News h₀ L s.heap news) (hm : (l, lobj vs z) ∈ news) (hb : (b, lobj ws z2) ∈ news) (hn : vs.length ≤ 1000) (hn2 : ws.length ≤ 1000)
    (h : ∀ D h', Fr h₀ L h' m → News h₀ L h' ((D, lobj (vs ++ ws) 0) :: news) → (∀ p ∈ news, p.1 < D) → Q (.ref D) { s with heap := h' }) :
    wpAny (model prog w) A (binaryOp .Add (.ref l) (.ref b)) Q E s := by
  refine add_lists F N ⟨_, (N _ hm).1, rfl, _, rfl⟩ ⟨_, (N _ hb).1, rfl, _, rfl⟩ (fun h' F' N' => h _ h' F' N' fun p hp => Heap.lt_size (N p hp).1) ?_
  exact Nat.le_trans (by omega) size_2000
noncomputable def law_b11.Stm (w : World) (A : Around) (E : Value → Shared → Prop) (s : Shared) (base : Heap) (mg : Str → Option Value) (mb : Str → Option Value) (mean : ExcName → Option Value) (Q : Value → Shared → Prop) (outer : List Env) (g : Heap) (l : Addr) (L' : Addr) (D : Addr) (T : Addr) (W : Addr) (LO : Addr) (SH : Addr) (SP : Addr) (ts : List (Str × Tok)) (z : Nat) (news : List (Addr × Obj)) : Prop := ∀ (body : List Stmt) (scope : Scope) (qual : Str) (cdv : Value) (hdef : LawDef w body scope qual cdv) (G : Gr w A base outer mean mg mb g) (hh : A.handled = none) (hd : A.depth + 10 < recursionLimit) (hu : A.units + 300 < cLine) (F : Fr g L' s.heap (lawMap l { row := some (.ref D), things := some (.ref T), writings := some (.ref W), longs := some (.ref LO), shorts := some (.ref SH), spoiled := some (.ref SP) })) (N : News g L' s.heap news) (hW : (LO, lobj (strValues ts) z) ∈ news) (hn : ts.length ≤ 100), wpAny (model PROG w) (A.deeper (envOfC qual scope L' 188 cdv)) (execs ((body.drop 11).take 1) (envOfC qual scope L' 188 cdv))
    (fun f s' => Hold (f = .next ∧ ∃ h tk J zz, s' = { s with heap := h, toks := tk } ∧ Fr g L' h (lawMap l { row := some (.ref D), things := some (.ref T), writings := some (.ref W), longs := some (.ref LO), shorts := some (.ref SH), spoiled := some (.ref SP), turned := some (.ref J) }) ∧ News g L' h ((J, lobj (strValues (ts.drop 6) ++ strValues (ts.take 6)) zz) :: news))) (fun _ _ => False) s
noncomputable def law_b11.cst : (World) × (Around) × (Value → Shared → Prop) × (Shared) × (Heap) × (Str → Option Value) × (Str → Option Value) × (ExcName → Option Value) × (Value → Shared → Prop) × (List Env) × (Heap) × (Addr) × (Addr) × (Addr) × (Addr) × (Addr) × (Addr) × (Addr) × (Addr) × (List (Str × Tok)) × (Nat) × (List (Addr × Obj)) := eps (aWorld 0, {}, fun _ _ => True, {}, {}, fun _ => none, fun _ => none, fun _ => none, fun _ _ => True, [], {}, 0, 0, 0, 0, 0, 0, 0, 0, [], 0, []) (fun q => law_b11.Stm q.1 q.2.1 q.2.2.1 q.2.2.2.1 q.2.2.2.2.1 q.2.2.2.2.2.1 q.2.2.2.2.2.2.1 q.2.2.2.2.2.2.2.1 q.2.2.2.2.2.2.2.2.1 q.2.2.2.2.2.2.2.2.2.1 q.2.2.2.2.2.2.2.2.2.2.1 q.2.2.2.2.2.2.2.2.2.2.2.1 q.2.2.2.2.2.2.2.2.2.2.2.2.1 q.2.2.2.2.2.2.2.2.2.2.2.2.2.1 q.2.2.2.2.2.2.2.2.2.2.2.2.2.2.1 q.2.2.2.2.2.2.2.2.2.2.2.2.2.2.2.1 q.2.2.2.2.2.2.2.2.2.2.2.2.2.2.2.2.1 q.2.2.2.2.2.2.2.2.2.2.2.2.2.2.2.2.2.1 q.2.2.2.2.2.2.2.2.2.2.2.2.2.2.2.2.2.2.1 q.2.2.2.2.2.2.2.2.2.2.2.2.2.2.2.2.2.2.2.1 q.2.2.2.2.2.2.2.2.2.2.2.2.2.2.2.2.2.2.2.2.1 q.2.2.2.2.2.2.2.2.2.2.2.2.2.2.2.2.2.2.2.2.2)
namespace law_b11
noncomputable def s : Shared := cst.2.2.2.1
noncomputable def ts : List (Str × Tok) := cst.2.2.2.2.2.2.2.2.2.2.2.2.2.2.2.2.2.2.2.1
theorem it : Stm cst.1 cst.2.1 cst.2.2.1 s cst.2.2.2.2.1 cst.2.2.2.2.2.1 cst.2.2.2.2.2.2.1 cst.2.2.2.2.2.2.2.1 cst.2.2.2.2.2.2.2.2.1 cst.2.2.2.2.2.2.2.2.2.1 cst.2.2.2.2.2.2.2.2.2.2.1 cst.2.2.2.2.2.2.2.2.2.2.2.1 cst.2.2.2.2.2.2.2.2.2.2.2.2.1 cst.2.2.2.2.2.2.2.2.2.2.2.2.2.1 cst.2.2.2.2.2.2.2.2.2.2.2.2.2.2.1 cst.2.2.2.2.2.2.2.2.2.2.2.2.2.2.2.1 cst.2.2.2.2.2.2.2.2.2.2.2.2.2.2.2.2.1 cst.2.2.2.2.2.2.2.2.2.2.2.2.2.2.2.2.2.1 cst.2.2.2.2.2.2.2.2.2.2.2.2.2.2.2.2.2.2.1 ts cst.2.2.2.2.2.2.2.2.2.2.2.2.2.2.2.2.2.2.2.2.1 cst.2.2.2.2.2.2.2.2.2.2.2.2.2.2.2.2.2.2.2.2.2 := by
  intro body scope qual cdv hdef G hh hd hu F N hW hn
  have hfill : (fun (_ : OpenLaw) (_ : Params → Frag) => True) PySem.Challenge.rw_nq0040_01 Mine.KC := by (k_fill; trivial)
  clear hfill
  w_top off
  obtain ⟨oc, od, name, params, dV, kV, doc, pm, an, ct, osl, hlk⟩ := hdef
  k_dflt (refine' lit_def ?li hlk ?_; (case li => k_is); k_whole)
  rintro rfl rfl rfl rfl
  dsimp only [List.drop, List.take]
  obtain ⟨B2, X2, T2, D2⟩ := G
  repeat' (first | ((with_reducible show wpAny _ _ (subscriptTail _ (PySem.Expr.Slice _ _ none _) (Value.ref _) (Value.ref _)) _ _ _); refine' slice_in ?F ?N ?hm ?hn ?p ?q ?_ ?s ?t; (case F => k_asm); (case N => k_asm); (case hm => first | assumption | exact .tail _ (by assumption)); (case hn => simp [strValues]; omega); (case p => kmk_part); (case q => kmk_part); (case s => with_unfolding_all rfl); (case t => kmk_pure); intro _ _ _ _ _) | ((with_reducible show wpAny _ _ (binaryOp Operator.Add (Value.ref _) (Value.ref _)) _ _ _); refine Hold.it ?_) | walk_at "m1")
  rename_i D1 h1 F1 N1 l1 D2 h2 F2 N2 l2
  refine ⟨?_⟩
  have e1 : kms_pick (strValues ts) (some 6) none = strValues (ts.drop 6) := by
    have hl : (strValues ts).length = ts.length := by simp [strValues]
    unfold kms_pick
    rw [hl]
    simp only [kms_lo, kms_hi]
    simp [strValues]
    have h2 : (List.map (fun p : Str × Tok => Value.str p.1 p.2) ts).length = ts.length := by simp
    rw [← h2, kmk_drop_min, List.take_of_length_le]
    rw [List.length_drop]; omega
  have e2 : kms_pick (strValues ts) none (some 6) = strValues (ts.take 6) := by
    have hl : (strValues ts).length = ts.length := by simp [strValues]
    unfold kms_pick
    rw [hl]
    simp only [kms_lo, kms_hi]
    simp [strValues]
  rw [e1] at N1 N2
  rw [e2] at N2
  refine add_in F2 N2 (.tail _ (.head _)) (.head _) (by simp [strValues]; omega) (by simp [strValues]; omega) ?_
  intro J h3 F3 N3 l3
  clear F N F1 N1 F2 N2
  repeat' (first | ((with_reducible show wpAny _ _ (subscriptTail _ (PySem.Expr.Slice _ _ none _) (Value.ref _) (Value.ref _)) _ _ _); refine' slice_in ?F ?N ?hm ?hn ?p ?q ?_ ?s ?t; (case F => k_asm); (case N => k_asm); (case hm => first | assumption | exact .tail _ (by assumption)); (case hn => simp [strValues]; omega); (case p => kmk_part); (case q => kmk_part); (case s => with_unfolding_all rfl); (case t => kmk_pure); intro _ _ _ _ _) | ((with_reducible show wpAny _ _ (binaryOp Operator.Add (Value.ref _) (Value.ref _)) _ _ _); refine Hold.it ?_) | walk_at "m1")
  rename_i F4 N4
  dsimp only
  refine' ⟨rfl, _, _, J, 0, rfl, Fr.as F4 ?fr, fun p hp => ?_⟩
  case fr => (funext zz; by_cases hz0 : zz = PySem.Str.ofString "kept"; (focus (subst hz0; rfl)); by_cases hz1 : zz = PySem.Str.ofString "whole"; (focus (subst hz1; rfl)); by_cases hz2 : zz = PySem.Str.ofString "good"; (focus (subst hz2; rfl)); by_cases hz3 : zz = PySem.Str.ofString "turned"; (focus (subst hz3; rfl)); by_cases hz4 : zz = PySem.Str.ofString "spoiled"; (focus (subst hz4; rfl)); by_cases hz5 : zz = PySem.Str.ofString "shorts"; (focus (subst hz5; rfl)); by_cases hz6 : zz = PySem.Str.ofString "longs"; (focus (subst hz6; rfl)); by_cases hz7 : zz = PySem.Str.ofString "writings"; (focus (subst hz7; rfl)); by_cases hz8 : zz = PySem.Str.ofString "things"; (focus (subst hz8; rfl)); by_cases hz9 : zz = PySem.Str.ofString "row"; (focus (subst hz9; rfl)); by_cases hz10 : zz = PySem.Str.ofString "script"; (focus (subst hz10; rfl)); (try dsimp only); (try simp only [if_neg hz0]); (try simp only [if_neg hz1]); (try simp only [if_neg hz2]); (try simp only [if_neg hz3]); (try simp only [if_neg hz4]); (try simp only [if_neg hz5]); (try simp only [if_neg hz6]); (try simp only [if_neg hz7]); (try simp only [if_neg hz8]); (try simp only [if_neg hz9]); (try simp only [if_neg hz10]); (try rfl))
  refine N4 p ?_
  rcases List.mem_cons.mp hp with e | e
  · exact e ▸ List.mem_cons_self ..
  · exact .tail _ (.tail _ (.tail _ e))
end law_b11
theorem law_b11 {w : World} {A : Around} {E : Value → Shared → Prop} {s : Shared} {base : Heap} {mg : Str → Option Value} {mb : Str → Option Value} {mean : ExcName → Option Value} {Q : Value → Shared → Prop} {outer : List Env} {g : Heap} {l : Addr} {L' : Addr} {D : Addr} {T : Addr} {W : Addr} {LO : Addr} {SH : Addr} {SP : Addr} {ts : List (Str × Tok)} {z : Nat} {news : List (Addr × Obj)} {body : List Stmt} {scope : Scope} {qual : Str} {cdv : Value}
   (hdef : LawDef w body scope qual cdv) (G : Gr w A base outer mean mg mb g) (hh : A.handled = none) (hd : A.depth + 10 < recursionLimit) (hu : A.units + 300 < cLine) (F : Fr g L' s.heap (lawMap l { row := some (.ref D), things := some (.ref T), writings := some (.ref W), longs := some (.ref LO), shorts := some (.ref SH), spoiled := some (.ref SP) })) (N : News g L' s.heap news) (hW : (LO, lobj (strValues ts) z) ∈ news) (hn : ts.length ≤ 100) : wpAny (model PROG w) (A.deeper (envOfC qual scope L' 188 cdv)) (execs ((body.drop 11).take 1) (envOfC qual scope L' 188 cdv))
    (fun f s' => Hold (f = .next ∧ ∃ h tk J zz, s' = { s with heap := h, toks := tk } ∧ Fr g L' h (lawMap l { row := some (.ref D), things := some (.ref T), writings := some (.ref W), longs := some (.ref LO), shorts := some (.ref SH), spoiled := some (.ref SP), turned := some (.ref J) }) ∧ News g L' h ((J, lobj (strValues (ts.drop 6) ++ strValues (ts.take 6)) zz) :: news))) (fun _ _ => False) s :=
  (eps_at (G := fun q => law_b11.Stm q.1 q.2.1 q.2.2.1 q.2.2.2.1 q.2.2.2.2.1 q.2.2.2.2.2.1 q.2.2.2.2.2.2.1 q.2.2.2.2.2.2.2.1 q.2.2.2.2.2.2.2.2.1 q.2.2.2.2.2.2.2.2.2.1 q.2.2.2.2.2.2.2.2.2.2.1 q.2.2.2.2.2.2.2.2.2.2.2.1 q.2.2.2.2.2.2.2.2.2.2.2.2.1 q.2.2.2.2.2.2.2.2.2.2.2.2.2.1 q.2.2.2.2.2.2.2.2.2.2.2.2.2.2.1 q.2.2.2.2.2.2.2.2.2.2.2.2.2.2.2.1 q.2.2.2.2.2.2.2.2.2.2.2.2.2.2.2.2.1 q.2.2.2.2.2.2.2.2.2.2.2.2.2.2.2.2.2.1 q.2.2.2.2.2.2.2.2.2.2.2.2.2.2.2.2.2.2.1 q.2.2.2.2.2.2.2.2.2.2.2.2.2.2.2.2.2.2.2.1 q.2.2.2.2.2.2.2.2.2.2.2.2.2.2.2.2.2.2.2.2.1 q.2.2.2.2.2.2.2.2.2.2.2.2.2.2.2.2.2.2.2.2.2) (c := law_b11.cst) rfl law_b11.it (w, A, E, s, base, mg, mb, mean, Q, outer, g, l, L', D, T, W, LO, SH, SP, ts, z, news) : law_b11.Stm w A E s base mg mb mean Q outer g l L' D T W LO SH SP ts z news) body scope qual cdv hdef G hh hd hu F N hW hn
end Mine
end

section
set_option linter.all false
namespace Mine
section
variable {w : World} {A A' : Around} {base : Heap} {outer : List Env} {mean : ExcName → Option Value} {mg mb : Str → Option Value} {g h g' h' : Heap} {L a b : Addr} {m : Str → Option Value} {news : List (Addr × Obj)} {name : Str} {scope : Scope} {cd : Value} {env : Env}
theorem kts_memE (hfr : env.frame = some L) (hm : b ∈ (env :: outer).filterMap (·.frame)) : b = L ∨ b ∈ outer.filterMap (·.frame) := by
  obtain ⟨e2, he, hf⟩ := List.mem_filterMap.mp hm
  rcases List.mem_cons.mp he with rfl | he
  · exact .inl (Option.some.inj (hfr.symm.trans hf)).symm
  · exact .inr (List.mem_filterMap.mpr ⟨e2, he, hf⟩)
theorem Gr.dictsE (hfr : env.frame = some L) (G : Gr w A base outer mean mg mb g) (F : Fr g L h m) : KtsDicts ((env :: outer).filterMap (·.frame)) h := fun b hb => by
  rcases kts_memE hfr hb with rfl | hb
  · obtain ⟨o, es, ep, ho, hd, _⟩ := F.ns
    exact ⟨o, es, ep, ho, hd⟩
  · obtain ⟨o, es, n, ho, hd⟩ := G.D b hb
    exact ⟨o, es, n, F.keep _ _ ho, hd⟩
theorem after_turnE (hfr : env.frame = some L) (G : Gr w A base outer mean mg mb g) (XB : (KC w.params).In base) (TB : Top EMP LS mean mg mb base) (F : Fr g L h m) (N : News g L h news)
    (Tn : KtsTurn ((env :: outer).filterMap (·.frame)) h g') (k : Kp g' h') :
    ∃ g₂, KtsTurn (outer.filterMap (·.frame)) g g₂ ∧ Fr g₂ L h' m ∧ News g₂ L h' news ∧ Gr w A base outer mean mg mb g₂ := by
  have nL : g.get? L = none := kts_self F
  obtain ⟨T₁, S₁⟩ := kts_turn_at (h := h') (fs := outer.filterMap (·.frame)) (g := g)
    (fun b hb => by
      obtain ⟨_, o, ho', _⟩ := G.B.frames.mem hb
      exact ⟨o, ho'⟩)
    (fun b o e nmem => k b o (Tn.other b o (F.keep b o e) (fun q => by
      rcases kts_memE hfr q with z | z
      · rw [z, nL] at e
        cases e
      · exact nmem z)))
    (fun b o e hm => by
      obtain ⟨sl', hs'⟩ := Tn.up (F.keep b o e)
      exact ⟨sl', k _ _ hs'⟩)
  have B₃ : Below A base outer (ktsHeap h' (outer.filterMap (·.frame)) g) := ⟨G.B.stack, fun b o e => T₁.other b o (G.B.stays b o e) (fun hm => by
    rw [(G.B.frames.mem hm).1] at e
    cases e), G.B.frames.of_keeps fun b o e _ => by
    obtain ⟨sl', hs'⟩ := T₁.up e
    exact ⟨_, hs', rfl⟩⟩
  obtain ⟨oL, es, ep, hL, hLd, hLk, hLf⟩ := F.ns
  obtain ⟨sl, hs⟩ := Tn.up hL
  refine ⟨_, T₁, ⟨⟨_, es, ep, k _ _ hs, hLd, hLk, hLf⟩, S₁, by rw [T₁.size]; exact F.above⟩, fun p hp => ⟨?_, (N p hp).2.1, T₁.none_ _ (N p hp).2.2⟩, ⟨B₃, XB.keeps B₃.stays, TB.keeps B₃.stays, G.D.turn T₁⟩⟩
  refine k _ _ (Tn.other _ _ (N p hp).1 fun q => ?_)
  rcases kts_memE hfr q with z | z
  · exact (N p hp).2.1 z
  · obtain ⟨_, o, ho', _⟩ := G.B.frames.mem z
    rw [(N p hp).2.2] at ho'; cases ho'
end
end Mine
end

section
namespace Mine
set_option maxRecDepth 100000
set_option maxHeartbeats 1000000
set_option linter.all false
noncomputable def law_b10.Stm (w : World) (A : Around) (E : Value → Shared → Prop) (s : Shared) (base : Heap) (mg : Str → Option Value) (mb : Str → Option Value) (mean : ExcName → Option Value) (Q : Value → Shared → Prop) (outer : List Env) (g : Heap) (l : Addr) (L' : Addr) (D : Addr) (T : Addr) (W : Addr) (LO : Addr) (SH : Addr) (SP : Addr) (pa : Addr) (ts : List (Str × Tok)) (us : List (Str × Tok)) (vs : List (Str × Tok)) (z : Nat) (z2 : Nat) (z3 : Nat) (hs : Str) (th : Tok) (t21 : Tok) (news : List (Addr × Obj)) : Prop := ∀ (body : List Stmt) (scope : Scope) (qual : Str) (cdv : Value) (hdef : LawDef w body scope qual cdv) (G : Gr w A base outer mean mg mb g) (hh : A.handled = none) (XB : (Mine.KC w.params).In base) (TB : Top EMP LS mean mg mb base) (hd : A.depth + 10 < recursionLimit) (hu : A.units + 300 < cLine) (F : Fr g L' s.heap (lawMap l { row := some (.ref D), things := some (.ref T), writings := some (.ref W), longs := some (.ref LO), shorts := some (.ref SH), spoiled := some (.ref SP) })) (N : News g L' s.heap news) (hL : (LO, lobj (strValues ts) z) ∈ news) (hS : (SH, lobj (strValues us) z2) ∈ news) (hP : (SP, lobj (strValues vs) z3) ∈ news) (hn : ts.length ≤ 100) (hn2 : us.length ≤ 100) (hn3 : vs.length ≤ 100) (ha1 : ∀ r ∈ ts.map (·.1), Asc r ∧ r.length ≤ 500) (ha2 : ∀ r ∈ us.map (·.1), Asc r ∧ r.length ≤ 500) (ha3 : ∀ r ∈ vs.map (·.1), Asc r ∧ r.length ≤ 500) (H : HostAt L' news hs th pa t21) (hok : PyData.strOk hs = true), wpC (model PROG w) (A.deeper (envOfC qual scope L' 188 cdv)) (execs ((body.drop 10).take 1) (envOfC qual scope L' 188 cdv))
    (fun f s' => Hold (f = .next ∧ ∃ g2 h tk, s' = { s with heap := h, toks := tk } ∧ KtsTurn (outer.filterMap (·.frame)) g g2 ∧ Gr w A base outer mean mg mb g2 ∧ Fr g2 L' h (lawMap l { row := some (.ref D), things := some (.ref T), writings := some (.ref W), longs := some (.ref LO), shorts := some (.ref SH), spoiled := some (.ref SP) }) ∧ News g2 L' h news)) (fun _ _ => False) s
noncomputable def law_b10.cst : (World) × (Around) × (Value → Shared → Prop) × (Shared) × (Heap) × (Str → Option Value) × (Str → Option Value) × (ExcName → Option Value) × (Value → Shared → Prop) × (List Env) × (Heap) × (Addr) × (Addr) × (Addr) × (Addr) × (Addr) × (Addr) × (Addr) × (Addr) × (Addr) × (List (Str × Tok)) × (List (Str × Tok)) × (List (Str × Tok)) × (Nat) × (Nat) × (Nat) × (Str) × (Tok) × (Tok) × (List (Addr × Obj)) := eps (aWorld 0, {}, fun _ _ => True, {}, {}, fun _ => none, fun _ => none, fun _ => none, fun _ _ => True, [], {}, 0, 0, 0, 0, 0, 0, 0, 0, 0, [], [], [], 0, 0, 0, Str.empty, 0, 0, []) (fun q => law_b10.Stm q.1 q.2.1 q.2.2.1 q.2.2.2.1 q.2.2.2.2.1 q.2.2.2.2.2.1 q.2.2.2.2.2.2.1 q.2.2.2.2.2.2.2.1 q.2.2.2.2.2.2.2.2.1 q.2.2.2.2.2.2.2.2.2.1 q.2.2.2.2.2.2.2.2.2.2.1 q.2.2.2.2.2.2.2.2.2.2.2.1 q.2.2.2.2.2.2.2.2.2.2.2.2.1 q.2.2.2.2.2.2.2.2.2.2.2.2.2.1 q.2.2.2.2.2.2.2.2.2.2.2.2.2.2.1 q.2.2.2.2.2.2.2.2.2.2.2.2.2.2.2.1 q.2.2.2.2.2.2.2.2.2.2.2.2.2.2.2.2.1 q.2.2.2.2.2.2.2.2.2.2.2.2.2.2.2.2.2.1 q.2.2.2.2.2.2.2.2.2.2.2.2.2.2.2.2.2.2.1 q.2.2.2.2.2.2.2.2.2.2.2.2.2.2.2.2.2.2.2.1 q.2.2.2.2.2.2.2.2.2.2.2.2.2.2.2.2.2.2.2.2.1 q.2.2.2.2.2.2.2.2.2.2.2.2.2.2.2.2.2.2.2.2.2.1 q.2.2.2.2.2.2.2.2.2.2.2.2.2.2.2.2.2.2.2.2.2.2.1 q.2.2.2.2.2.2.2.2.2.2.2.2.2.2.2.2.2.2.2.2.2.2.2.1 q.2.2.2.2.2.2.2.2.2.2.2.2.2.2.2.2.2.2.2.2.2.2.2.2.1 q.2.2.2.2.2.2.2.2.2.2.2.2.2.2.2.2.2.2.2.2.2.2.2.2.2.1 q.2.2.2.2.2.2.2.2.2.2.2.2.2.2.2.2.2.2.2.2.2.2.2.2.2.2.1 q.2.2.2.2.2.2.2.2.2.2.2.2.2.2.2.2.2.2.2.2.2.2.2.2.2.2.2.1 q.2.2.2.2.2.2.2.2.2.2.2.2.2.2.2.2.2.2.2.2.2.2.2.2.2.2.2.2.1 q.2.2.2.2.2.2.2.2.2.2.2.2.2.2.2.2.2.2.2.2.2.2.2.2.2.2.2.2.2)
namespace law_b10
noncomputable def A : Around := cst.2.1
noncomputable def s : Shared := cst.2.2.2.1
noncomputable def mb : Str → Option Value := cst.2.2.2.2.2.2.1
noncomputable def L' : Addr := cst.2.2.2.2.2.2.2.2.2.2.2.2.1
noncomputable def ts : List (Str × Tok) := cst.2.2.2.2.2.2.2.2.2.2.2.2.2.2.2.2.2.2.2.2.1
noncomputable def us : List (Str × Tok) := cst.2.2.2.2.2.2.2.2.2.2.2.2.2.2.2.2.2.2.2.2.2.1
noncomputable def vs : List (Str × Tok) := cst.2.2.2.2.2.2.2.2.2.2.2.2.2.2.2.2.2.2.2.2.2.2.1
noncomputable def news : List (Addr × Obj) := cst.2.2.2.2.2.2.2.2.2.2.2.2.2.2.2.2.2.2.2.2.2.2.2.2.2.2.2.2.2
theorem it : Stm cst.1 A cst.2.2.1 s cst.2.2.2.2.1 cst.2.2.2.2.2.1 mb cst.2.2.2.2.2.2.2.1 cst.2.2.2.2.2.2.2.2.1 cst.2.2.2.2.2.2.2.2.2.1 cst.2.2.2.2.2.2.2.2.2.2.1 cst.2.2.2.2.2.2.2.2.2.2.2.1 L' cst.2.2.2.2.2.2.2.2.2.2.2.2.2.1 cst.2.2.2.2.2.2.2.2.2.2.2.2.2.2.1 cst.2.2.2.2.2.2.2.2.2.2.2.2.2.2.2.1 cst.2.2.2.2.2.2.2.2.2.2.2.2.2.2.2.2.1 cst.2.2.2.2.2.2.2.2.2.2.2.2.2.2.2.2.2.1 cst.2.2.2.2.2.2.2.2.2.2.2.2.2.2.2.2.2.2.1 cst.2.2.2.2.2.2.2.2.2.2.2.2.2.2.2.2.2.2.2.1 ts us vs cst.2.2.2.2.2.2.2.2.2.2.2.2.2.2.2.2.2.2.2.2.2.2.2.1 cst.2.2.2.2.2.2.2.2.2.2.2.2.2.2.2.2.2.2.2.2.2.2.2.2.1 cst.2.2.2.2.2.2.2.2.2.2.2.2.2.2.2.2.2.2.2.2.2.2.2.2.2.1 cst.2.2.2.2.2.2.2.2.2.2.2.2.2.2.2.2.2.2.2.2.2.2.2.2.2.2.1 cst.2.2.2.2.2.2.2.2.2.2.2.2.2.2.2.2.2.2.2.2.2.2.2.2.2.2.2.1 cst.2.2.2.2.2.2.2.2.2.2.2.2.2.2.2.2.2.2.2.2.2.2.2.2.2.2.2.2.1 news := by
  intro body scope qual cdv hdef G hh XB TB hd hu F N hL hS hP hn hn2 hn3 ha1 ha2 ha3 H hok
  have hfill : (fun (_ : OpenLaw) (_ : Params → Frag) => True) PySem.Challenge.rw_nq0040_01 Mine.KC := by (k_fill; trivial)
  clear hfill
  w_top off
  obtain ⟨oc, od, name, params, dV, kV, doc, pm, an, ct, osl, hlk⟩ := hdef
  k_dflt (refine' lit_def ?li hlk ?_; (case li => k_is); k_whole)
  rintro rfl rfl rfl rfl
  dsimp only [List.drop, List.take]
  have G0 := G
  obtain ⟨oh, op, zt, hmh, hmp, hdh, hdp, htu⟩ := H
  obtain ⟨B2, X2, T2, D2⟩ := G
  refine wpC_execs_cons (wpC_If (wpC_isTrue_Not (wpC_isTrue_Call (wpC_Call_Name ?_))))
  repeat' (first | ((with_reducible show wpAny _ _ (eval (PySem.Expr.Name _ _) _) _ _ _); name_kind "cell"; refine Hold.it ?_) | ((with_reducible show wpAny _ _ (binaryOp Operator.Add (Value.ref _) (Value.ref _)) _ _ _); refine' add_in ?F ?N ?ma ?mb ?na ?nb ?_; (case F => k_asm); (case N => k_asm); (case ma => first | assumption | exact .head _ | exact .tail _ (by assumption)); (case mb => first | assumption | exact .tail _ (by assumption)); (case na => simp [strValues]; omega); (case nb => simp [strValues]; omega); intro _ _ _ _ _) | walk_at "m1")
  refine wpC_callWith1 ?_ rfl rfl
  repeat' (first | ((with_reducible show wpAny _ _ (eval (PySem.Expr.Name _ _) _) _ _ _); name_kind "cell"; refine Hold.it ?_) | ((with_reducible show wpAny _ _ (binaryOp Operator.Add (Value.ref _) (Value.ref _)) _ _ _); refine' add_in ?F ?N ?ma ?mb ?na ?nb ?_; (case F => k_asm); (case N => k_asm); (case ma => first | assumption | exact .head _ | exact .tail _ (by assumption)); (case mb => first | assumption | exact .tail _ (by assumption)); (case na => simp [strValues]; omega); (case nb => simp [strValues]; omega); intro _ _ _ _ _) | walk_at "m1")
  rename_i D1 h1 F1 N1 l1 D2 h2 F2 N2 l2
  refine ⟨?_⟩
  refine' nameX_C (c := L' + 1 + 1) N2 ?ca (.tail _ (.tail _ hmp)) hdp ?_ ?cb ?cc
  case ca => rfl
  case cb => rfl
  case cc => rfl
  repeat' (first | ((with_reducible show wpAny _ _ (eval (PySem.Expr.Name _ _) _) _ _ _); name_kind "cell"; refine Hold.it ?_) | ((with_reducible show wpAny _ _ (binaryOp Operator.Add (Value.ref _) (Value.ref _)) _ _ _); refine' add_in ?F ?N ?ma ?mb ?na ?nb ?_; (case F => k_asm); (case N => k_asm); (case ma => first | assumption | exact .head _ | exact .tail _ (by assumption)); (case mb => first | assumption | exact .tail _ (by assumption)); (case na => simp [strValues]; omega); (case nb => simp [strValues]; omega); intro _ _ _ _ _) | walk_at "m1")
  refine ⟨?_⟩
  refine' nameX_C (c := L' + 1) N2 ?da (.tail _ (.tail _ hmh)) hdh ?_ ?db ?dc
  case da => rfl
  case db => rfl
  case dc => rfl
  repeat' (first | ((with_reducible show wpAny _ _ (eval (PySem.Expr.Name _ _) _) _ _ _); name_kind "cell"; refine Hold.it ?_) | ((with_reducible show wpAny _ _ (binaryOp Operator.Add (Value.ref _) (Value.ref _)) _ _ _); refine' add_in ?F ?N ?ma ?mb ?na ?nb ?_; (case F => k_asm); (case N => k_asm); (case ma => first | assumption | exact .head _ | exact .tail _ (by assumption)); (case mb => first | assumption | exact .tail _ (by assumption)); (case na => simp [strValues]; omega); (case nb => simp [strValues]; omega); intro _ _ _ _ _) | walk_at "m1")
  · refine' kept_K (X2.keeps (Fr.keep (by assumption))) ?k
    case k => k_is
  · have h0 := fun p hp => N2 p hp
    refine told_spec (rs := (ts ++ us) ++ vs) (belowX B2 F2) (X2.keeps F2.keep) (T2.keeps F2.keep) hh XB TB (Gr.dictsE rfl G0 F2) ?_ ?_ ⟨_, (N2 _ (.head _)).1, rfl, 0, ?li⟩ ?_ ⟨_, (N2 _ (.tail _ (.tail _ htu))).1, rfl, _, rfl⟩ hok ?_
    · show A.depth + 1 + 3 < recursionLimit; omega
    · show A.units + 3 + 100 < cLine; omega
    case li => simp [strValues, lobj]
    · intro r hr
      simp only [List.map_append, List.mem_append] at hr
      rcases hr with (hr | hr) | hr
      · exact ha1 r hr
      · exact ha2 r hr
      · exact ha3 r hr
    intro g' h5 tk5 Tn5 k5
    obtain ⟨g2, Tn2, F5, N5, G2⟩ := after_turnE rfl G0 XB TB F2 N2 Tn5 k5
    have N6 : News g2 L' h5 news := fun p hp => N5 p (.tail _ (.tail _ hp))
    refine wpAny_truthy_bool ?_
    rw [if_neg (by simp)]
    refine wpC_execs_nil (wpC_execs_nil ?_)
    refine ⟨?_⟩
    exact ⟨rfl, g2, h5, tk5, rfl, Tn2, G2, F5, N6⟩
end law_b10
theorem law_b10 {w : World} {A : Around} {E : Value → Shared → Prop} {s : Shared} {base : Heap} {mg : Str → Option Value} {mb : Str → Option Value} {mean : ExcName → Option Value} {Q : Value → Shared → Prop} {outer : List Env} {g : Heap} {l : Addr} {L' : Addr} {D : Addr} {T : Addr} {W : Addr} {LO : Addr} {SH : Addr} {SP : Addr} {pa : Addr} {ts : List (Str × Tok)} {us : List (Str × Tok)} {vs : List (Str × Tok)} {z : Nat} {z2 : Nat} {z3 : Nat} {hs : Str} {th : Tok} {t21 : Tok} {news : List (Addr × Obj)} {body : List Stmt} {scope : Scope} {qual : Str} {cdv : Value}
   (hdef : LawDef w body scope qual cdv) (G : Gr w A base outer mean mg mb g) (hh : A.handled = none) (XB : (Mine.KC w.params).In base) (TB : Top EMP LS mean mg mb base) (hd : A.depth + 10 < recursionLimit) (hu : A.units + 300 < cLine) (F : Fr g L' s.heap (lawMap l { row := some (.ref D), things := some (.ref T), writings := some (.ref W), longs := some (.ref LO), shorts := some (.ref SH), spoiled := some (.ref SP) })) (N : News g L' s.heap news) (hL : (LO, lobj (strValues ts) z) ∈ news) (hS : (SH, lobj (strValues us) z2) ∈ news) (hP : (SP, lobj (strValues vs) z3) ∈ news) (hn : ts.length ≤ 100) (hn2 : us.length ≤ 100) (hn3 : vs.length ≤ 100) (ha1 : ∀ r ∈ ts.map (·.1), Asc r ∧ r.length ≤ 500) (ha2 : ∀ r ∈ us.map (·.1), Asc r ∧ r.length ≤ 500) (ha3 : ∀ r ∈ vs.map (·.1), Asc r ∧ r.length ≤ 500) (H : HostAt L' news hs th pa t21) (hok : PyData.strOk hs = true) : wpC (model PROG w) (A.deeper (envOfC qual scope L' 188 cdv)) (execs ((body.drop 10).take 1) (envOfC qual scope L' 188 cdv))
    (fun f s' => Hold (f = .next ∧ ∃ g2 h tk, s' = { s with heap := h, toks := tk } ∧ KtsTurn (outer.filterMap (·.frame)) g g2 ∧ Gr w A base outer mean mg mb g2 ∧ Fr g2 L' h (lawMap l { row := some (.ref D), things := some (.ref T), writings := some (.ref W), longs := some (.ref LO), shorts := some (.ref SH), spoiled := some (.ref SP) }) ∧ News g2 L' h news)) (fun _ _ => False) s :=
  (eps_at (G := fun q => law_b10.Stm q.1 q.2.1 q.2.2.1 q.2.2.2.1 q.2.2.2.2.1 q.2.2.2.2.2.1 q.2.2.2.2.2.2.1 q.2.2.2.2.2.2.2.1 q.2.2.2.2.2.2.2.2.1 q.2.2.2.2.2.2.2.2.2.1 q.2.2.2.2.2.2.2.2.2.2.1 q.2.2.2.2.2.2.2.2.2.2.2.1 q.2.2.2.2.2.2.2.2.2.2.2.2.1 q.2.2.2.2.2.2.2.2.2.2.2.2.2.1 q.2.2.2.2.2.2.2.2.2.2.2.2.2.2.1 q.2.2.2.2.2.2.2.2.2.2.2.2.2.2.2.1 q.2.2.2.2.2.2.2.2.2.2.2.2.2.2.2.2.1 q.2.2.2.2.2.2.2.2.2.2.2.2.2.2.2.2.2.1 q.2.2.2.2.2.2.2.2.2.2.2.2.2.2.2.2.2.2.1 q.2.2.2.2.2.2.2.2.2.2.2.2.2.2.2.2.2.2.2.1 q.2.2.2.2.2.2.2.2.2.2.2.2.2.2.2.2.2.2.2.2.1 q.2.2.2.2.2.2.2.2.2.2.2.2.2.2.2.2.2.2.2.2.2.1 q.2.2.2.2.2.2.2.2.2.2.2.2.2.2.2.2.2.2.2.2.2.2.1 q.2.2.2.2.2.2.2.2.2.2.2.2.2.2.2.2.2.2.2.2.2.2.2.1 q.2.2.2.2.2.2.2.2.2.2.2.2.2.2.2.2.2.2.2.2.2.2.2.2.1 q.2.2.2.2.2.2.2.2.2.2.2.2.2.2.2.2.2.2.2.2.2.2.2.2.2.1 q.2.2.2.2.2.2.2.2.2.2.2.2.2.2.2.2.2.2.2.2.2.2.2.2.2.2.1 q.2.2.2.2.2.2.2.2.2.2.2.2.2.2.2.2.2.2.2.2.2.2.2.2.2.2.2.1 q.2.2.2.2.2.2.2.2.2.2.2.2.2.2.2.2.2.2.2.2.2.2.2.2.2.2.2.2.1 q.2.2.2.2.2.2.2.2.2.2.2.2.2.2.2.2.2.2.2.2.2.2.2.2.2.2.2.2.2) (c := law_b10.cst) rfl law_b10.it (w, A, E, s, base, mg, mb, mean, Q, outer, g, l, L', D, T, W, LO, SH, SP, pa, ts, us, vs, z, z2, z3, hs, th, t21, news) : law_b10.Stm w A E s base mg mb mean Q outer g l L' D T W LO SH SP pa ts us vs z z2 z3 hs th t21 news) body scope qual cdv hdef G hh XB TB hd hu F N hL hS hP hn hn2 hn3 ha1 ha2 ha3 H hok
end Mine
end

section
namespace Mine
set_option maxRecDepth 100000
set_option maxHeartbeats 1000000
set_option linter.all false
noncomputable def okR (q : Str × Tok) : Bool := match readF q.1 with
  | .ok _ => true
  | _ => false
theorem take_filter {α : Type} {p : α → Bool} {ts : List α} {i : Nat} {q : α} (h : ts[i]? = some q) : (ts.take (i + 1)).filter p = (ts.take i).filter p ++ (if p q then [q] else []) := by
  rw [List.take_add_one, h, List.filter_append]
  congr 1
  simp only [Option.toList, List.filter_cons, List.filter_nil]
noncomputable def law_b12.Stm (w : World) (A : Around) (E : Value → Shared → Prop) (s : Shared) (base : Heap) (mg : Str → Option Value) (mb : Str → Option Value) (mean : ExcName → Option Value) (Q : Value → Shared → Prop) (outer : List Env) (g : Heap) (l : Addr) (L' : Addr) (D : Addr) (T : Addr) (W : Addr) (LO : Addr) (SH : Addr) (SP : Addr) (TU : Addr) (pa : Addr) (ts : List (Str × Tok)) (z : Nat) (hs : Str) (th : Tok) (t21 : Tok) (news : List (Addr × Obj)) : Prop := ∀ (body : List Stmt) (scope : Scope) (qual : Str) (cdv : Value) (hdef : LawDef w body scope qual cdv) (G : Gr w A base outer mean mg mb g) (hh : A.handled = none) (hd : A.depth + 10 < recursionLimit) (hu : A.units + 300 < cLine) (F : Fr g L' s.heap (lawMap l { row := some (.ref D), things := some (.ref T), writings := some (.ref W), longs := some (.ref LO), shorts := some (.ref SH), spoiled := some (.ref SP), turned := some (.ref TU) })) (N : News g L' s.heap news) (hL : (LO, lobj (strValues ts) z) ∈ news) (hn : ts.length ≤ 100) (ha : ∀ r ∈ ts.map (·.1), Asc r ∧ r.length ≤ 500) (H : HostAt L' news hs th pa t21), wpAny (model PROG w) (A.deeper (envOfC qual scope L' 188 cdv)) (execs ((body.drop 12).take 1) (envOfC qual scope L' 188 cdv))
    (fun f s' => Hold (f = .next ∧ ∃ h tk J, s' = { s with heap := h, toks := tk } ∧ Fr g L' h (lawMap l { row := some (.ref D), things := some (.ref T), writings := some (.ref W), longs := some (.ref LO), shorts := some (.ref SH), spoiled := some (.ref SP), turned := some (.ref TU), good := some (.ref J) }) ∧ News g L' h ((J, LCg.lst (strValues (ts.filter okR))) :: news))) (fun _ _ => False) s
noncomputable def law_b12.cst : (World) × (Around) × (Value → Shared → Prop) × (Shared) × (Heap) × (Str → Option Value) × (Str → Option Value) × (ExcName → Option Value) × (Value → Shared → Prop) × (List Env) × (Heap) × (Addr) × (Addr) × (Addr) × (Addr) × (Addr) × (Addr) × (Addr) × (Addr) × (Addr) × (Addr) × (List (Str × Tok)) × (Nat) × (Str) × (Tok) × (Tok) × (List (Addr × Obj)) := eps (aWorld 0, {}, fun _ _ => True, {}, {}, fun _ => none, fun _ => none, fun _ => none, fun _ _ => True, [], {}, 0, 0, 0, 0, 0, 0, 0, 0, 0, 0, [], 0, Str.empty, 0, 0, []) (fun q => law_b12.Stm q.1 q.2.1 q.2.2.1 q.2.2.2.1 q.2.2.2.2.1 q.2.2.2.2.2.1 q.2.2.2.2.2.2.1 q.2.2.2.2.2.2.2.1 q.2.2.2.2.2.2.2.2.1 q.2.2.2.2.2.2.2.2.2.1 q.2.2.2.2.2.2.2.2.2.2.1 q.2.2.2.2.2.2.2.2.2.2.2.1 q.2.2.2.2.2.2.2.2.2.2.2.2.1 q.2.2.2.2.2.2.2.2.2.2.2.2.2.1 q.2.2.2.2.2.2.2.2.2.2.2.2.2.2.1 q.2.2.2.2.2.2.2.2.2.2.2.2.2.2.2.1 q.2.2.2.2.2.2.2.2.2.2.2.2.2.2.2.2.1 q.2.2.2.2.2.2.2.2.2.2.2.2.2.2.2.2.2.1 q.2.2.2.2.2.2.2.2.2.2.2.2.2.2.2.2.2.2.1 q.2.2.2.2.2.2.2.2.2.2.2.2.2.2.2.2.2.2.2.1 q.2.2.2.2.2.2.2.2.2.2.2.2.2.2.2.2.2.2.2.2.1 q.2.2.2.2.2.2.2.2.2.2.2.2.2.2.2.2.2.2.2.2.2.1 q.2.2.2.2.2.2.2.2.2.2.2.2.2.2.2.2.2.2.2.2.2.2.1 q.2.2.2.2.2.2.2.2.2.2.2.2.2.2.2.2.2.2.2.2.2.2.2.1 q.2.2.2.2.2.2.2.2.2.2.2.2.2.2.2.2.2.2.2.2.2.2.2.2.1 q.2.2.2.2.2.2.2.2.2.2.2.2.2.2.2.2.2.2.2.2.2.2.2.2.2.1 q.2.2.2.2.2.2.2.2.2.2.2.2.2.2.2.2.2.2.2.2.2.2.2.2.2.2)
namespace law_b12
noncomputable def A : Around := cst.2.1
noncomputable def s : Shared := cst.2.2.2.1
noncomputable def g : Heap := cst.2.2.2.2.2.2.2.2.2.2.1
noncomputable def L' : Addr := cst.2.2.2.2.2.2.2.2.2.2.2.2.1
noncomputable def LO : Addr := cst.2.2.2.2.2.2.2.2.2.2.2.2.2.2.2.2.1
noncomputable def ts : List (Str × Tok) := cst.2.2.2.2.2.2.2.2.2.2.2.2.2.2.2.2.2.2.2.2.2.1
noncomputable def hs : Str := cst.2.2.2.2.2.2.2.2.2.2.2.2.2.2.2.2.2.2.2.2.2.2.2.1
noncomputable def th : Tok := cst.2.2.2.2.2.2.2.2.2.2.2.2.2.2.2.2.2.2.2.2.2.2.2.2.1
noncomputable def news : List (Addr × Obj) := cst.2.2.2.2.2.2.2.2.2.2.2.2.2.2.2.2.2.2.2.2.2.2.2.2.2.2
theorem it : Stm cst.1 A cst.2.2.1 s cst.2.2.2.2.1 cst.2.2.2.2.2.1 cst.2.2.2.2.2.2.1 cst.2.2.2.2.2.2.2.1 cst.2.2.2.2.2.2.2.2.1 cst.2.2.2.2.2.2.2.2.2.1 g cst.2.2.2.2.2.2.2.2.2.2.2.1 L' cst.2.2.2.2.2.2.2.2.2.2.2.2.2.1 cst.2.2.2.2.2.2.2.2.2.2.2.2.2.2.1 cst.2.2.2.2.2.2.2.2.2.2.2.2.2.2.2.1 LO cst.2.2.2.2.2.2.2.2.2.2.2.2.2.2.2.2.2.1 cst.2.2.2.2.2.2.2.2.2.2.2.2.2.2.2.2.2.2.1 cst.2.2.2.2.2.2.2.2.2.2.2.2.2.2.2.2.2.2.2.1 cst.2.2.2.2.2.2.2.2.2.2.2.2.2.2.2.2.2.2.2.2.1 ts cst.2.2.2.2.2.2.2.2.2.2.2.2.2.2.2.2.2.2.2.2.2.2.1 hs th cst.2.2.2.2.2.2.2.2.2.2.2.2.2.2.2.2.2.2.2.2.2.2.2.2.2.1 news := by
  intro body scope qual cdv hdef G hh hd hu F N hL hn ha H
  have hfill : (fun (_ : OpenLaw) (_ : Params → Frag) => True) PySem.Challenge.rw_nq0040_01 Mine.KC := by (k_fill; trivial)
  clear hfill
  w_top off
  obtain ⟨oc, od, name, params, dV, kV, doc, pm, an, ct, osl, hlk⟩ := hdef
  k_dflt (refine' lit_def ?li hlk ?_; (case li => k_is); k_whole)
  rintro rfl rfl rfl rfl
  dsimp only [List.drop, List.take]
  obtain ⟨B2, X2, T2, D2⟩ := G
  obtain ⟨oh, op, zt, hmh, hmp, hdh, hdp, htu⟩ := H
  repeat' (first | ((with_reducible show wpAny _ _ (eval (PySem.Expr.Name _ _) _) _ _ _); (with_reducible first | show wpAny _ _ (eval (Expr.Name (Str.ofString "host") _) (compEnvC _ _ _ _)) _ _ _ | show wpAny _ _ (eval (Expr.Name (Str.ofString "peer") _) (compEnvC _ _ _ _)) _ _ _); refine Hold.it ?_) | ((with_reducible show wpAny _ _ (exec (PySem.Stmt.Assign (_ :: _) (PySem.Expr.ListComp _ _ _ _) _) _) _ _ _); refine Hold.it ?_) | walk_at "m1")
  refine ⟨?_⟩
  refine' assign_listT (h₀ := g) (L := L') F rfl ?aa ?ab ?ac ?ad ?ae ?af ?ag ?ah ?ai ?aj
  case aa => with_unfolding_all rfl
  case ab => with_unfolding_all rfl
  case ac => decide
  case ad => rfl
  case ae => decide
  case af => rfl
  case ag => rfl
  case ah => rfl
  case aj => intro _; rfl
  case ai =>
    repeat' (first | ((with_reducible show wpAny _ _ (eval (PySem.Expr.Name _ _) _) _ _ _); (with_reducible first | show wpAny _ _ (eval (Expr.Name (Str.ofString "host") _) (compEnvC _ _ _ _)) _ _ _ | show wpAny _ _ (eval (Expr.Name (Str.ofString "peer") _) (compEnvC _ _ _ _)) _ _ _); refine Hold.it ?_) | ((with_reducible show wpAny _ _ (exec (PySem.Stmt.Assign (_ :: _) (PySem.Expr.ListComp _ _ _ _) _) _) _ _ _); refine Hold.it ?_) | walk_at "m1")
    refine ⟨LO, (strValues ts).toArray, news, rfl, hh, F, N, .inr ⟨_, hL, rfl, _, rfl⟩, ?sz, fun g5 => rest_genT (fun i ys nw => nw = news ∧ ys = strValues ((ts.take i).filter okR)) ?hS ⟨rfl, rfl⟩ ?tu ?fi⟩
    case sz => simp [strValues]; omega
    case hS => rintro _ _ _ ⟨rfl, _⟩; exact .inr ⟨_, hL, rfl, _, rfl⟩
    case tu =>
      rintro i v I oI C oC D6 ys nw m₂ h6 tk6 hi ⟨rfl, rfl⟩ hv hC hm F6 N6 off
      obtain ⟨q, hq, rfl⟩ : ∃ q, ts[i]? = some q ∧ Value.str q.1 q.2 = v := by simpa [strValues] using hv
      obtain ⟨x, tx⟩ := q
      have hax := ha x (List.mem_map.mpr ⟨_, List.mem_of_getElem? hq, rfl⟩)
      rw [take_filter hq]
      clear F N
      repeat' (first | ((with_reducible show wpAny _ _ (eval (PySem.Expr.Name _ _) _) _ _ _); (with_reducible first | show wpAny _ _ (eval (Expr.Name (Str.ofString "host") _) (compEnvC _ _ _ _)) _ _ _ | show wpAny _ _ (eval (Expr.Name (Str.ofString "peer") _) (compEnvC _ _ _ _)) _ _ _); refine Hold.it ?_) | ((with_reducible show wpAny _ _ (exec (PySem.Stmt.Assign (_ :: _) (PySem.Expr.ListComp _ _ _ _) _) _) _ _ _); refine Hold.it ?_) | walk_at "m1")
      refine ⟨?_⟩
      refine' lcf_cell (c := L' + 1) N6 ?la (.tail _ (.tail _ (.tail _ hmh))) hdh ?_ ?lb ?lc
      case la => rfl
      case lb => rfl
      case lc => rfl
      repeat' (first | ((with_reducible show wpAny _ _ (eval (PySem.Expr.Name _ _) _) _ _ _); (with_reducible first | show wpAny _ _ (eval (Expr.Name (Str.ofString "host") _) (compEnvC _ _ _ _)) _ _ _ | show wpAny _ _ (eval (Expr.Name (Str.ofString "peer") _) (compEnvC _ _ _ _)) _ _ _); refine Hold.it ?_) | ((with_reducible show wpAny _ _ (exec (PySem.Stmt.Assign (_ :: _) (PySem.Expr.ListComp _ _ _ _) _) _) _ _ _); refine Hold.it ?_) | walk_at "m1")
      refine read_spec (belowX B2 F6) (X2.keeps F6.keep) (T2.keeps F6.keep) hh ?_ hax.2 hax.1 fun v h7 tk7 k7 hv7 => ?_
      · show A.depth + 1 + 2 < recursionLimit; omega
      have F7 := F6.keeps k7
      have N7 := N6.grown k7
      unfold ReadVal at hv7
      cases hrd : readF x <;> rw [hrd] at hv7 <;> dsimp only at hv7 ⊢
      case ok n =>
        obtain ⟨a, tn, rfl, ha0, ha1⟩ := hv7
        have haL : a ≠ L' := fun q => by
          obtain ⟨oL, es, ep, hL, r⟩ := F6.ns
          rw [← q, ha0] at hL
          cases hL
        have hag : g.get? a = none := by
          cases q : g.get? a with
          | none => rfl
          | some o => rw [F6.keep _ _ q] at ha0; cases ha0
        have N8 : News g L' h7 ((a, pairObj hs th n tn) :: (I, oI) :: (C, oC) :: (D6, LCg.lst (strValues ((ts.take i).filter okR))) :: news) := fun p hp => by
          rcases List.mem_cons.mp hp with rfl | hp
          · exact ⟨ha1, haL, hag⟩
          · exact N7 p hp
        clear N7 F6 N6
        repeat' (first | ((with_reducible show wpAny _ _ (eval (PySem.Expr.Name _ _) _) _ _ _); (with_reducible first | show wpAny _ _ (eval (Expr.Name (Str.ofString "host") _) (compEnvC _ _ _ _)) _ _ _ | show wpAny _ _ (eval (Expr.Name (Str.ofString "peer") _) (compEnvC _ _ _ _)) _ _ _); refine Hold.it ?_) | ((with_reducible show wpAny _ _ (exec (PySem.Stmt.Assign (_ :: _) (PySem.Expr.ListComp _ _ _ _) _) _) _ _ _); refine Hold.it ?_) | walk_at "m1")
        refine ⟨?_⟩
        rw [if_pos rfl]
        repeat' (first | ((with_reducible show wpAny _ _ (eval (PySem.Expr.Name _ _) _) _ _ _); (with_reducible first | show wpAny _ _ (eval (Expr.Name (Str.ofString "host") _) (compEnvC _ _ _ _)) _ _ _ | show wpAny _ _ (eval (Expr.Name (Str.ofString "peer") _) (compEnvC _ _ _ _)) _ _ _); refine Hold.it ?_) | ((with_reducible show wpAny _ _ (exec (PySem.Stmt.Assign (_ :: _) (PySem.Expr.ListComp _ _ _ _) _) _) _ _ _); refine Hold.it ?_) | walk_at "m1")
        exact ⟨h7, _, [], rfl, k7, Ex.nil, rfl, by simp [okR, hrd, strValues]⟩
      all_goals obtain ⟨tv, rfl⟩ := hv7
      all_goals clear F6 N6
      all_goals repeat' (first | ((with_reducible show wpAny _ _ (eval (PySem.Expr.Name _ _) _) _ _ _); (with_reducible first | show wpAny _ _ (eval (Expr.Name (Str.ofString "host") _) (compEnvC _ _ _ _)) _ _ _ | show wpAny _ _ (eval (Expr.Name (Str.ofString "peer") _) (compEnvC _ _ _ _)) _ _ _); refine Hold.it ?_) | ((with_reducible show wpAny _ _ (exec (PySem.Stmt.Assign (_ :: _) (PySem.Expr.ListComp _ _ _ _) _) _) _ _ _); refine Hold.it ?_) | walk_at "m1")
      all_goals refine ⟨?_⟩
      all_goals rw [if_neg (by simp)]
      all_goals exact ⟨h7, _, rfl, k7, rfl, by simp [okR, hrd]⟩
    case fi =>
      rintro ys nw ⟨rfl, rfl⟩
      unfold LCg.FinA
      intro D3 h3 tk3 F3 N3 _
      rw [List.take_of_length_le (by simp [strValues])] at N3
      repeat' (first | ((with_reducible show wpAny _ _ (eval (PySem.Expr.Name _ _) _) _ _ _); (with_reducible first | show wpAny _ _ (eval (Expr.Name (Str.ofString "host") _) (compEnvC _ _ _ _)) _ _ _ | show wpAny _ _ (eval (Expr.Name (Str.ofString "peer") _) (compEnvC _ _ _ _)) _ _ _); refine Hold.it ?_) | ((with_reducible show wpAny _ _ (exec (PySem.Stmt.Assign (_ :: _) (PySem.Expr.ListComp _ _ _ _) _) _) _ _ _); refine Hold.it ?_) | walk_at "m1")
      refine ⟨rfl, h3, _, D3, rfl, Fr.as F3 ?fr, N3⟩
      case fr => (funext zz; by_cases hz0 : zz = PySem.Str.ofString "kept"; (focus (subst hz0; rfl)); by_cases hz1 : zz = PySem.Str.ofString "whole"; (focus (subst hz1; rfl)); by_cases hz2 : zz = PySem.Str.ofString "good"; (focus (subst hz2; rfl)); by_cases hz3 : zz = PySem.Str.ofString "turned"; (focus (subst hz3; rfl)); by_cases hz4 : zz = PySem.Str.ofString "spoiled"; (focus (subst hz4; rfl)); by_cases hz5 : zz = PySem.Str.ofString "shorts"; (focus (subst hz5; rfl)); by_cases hz6 : zz = PySem.Str.ofString "longs"; (focus (subst hz6; rfl)); by_cases hz7 : zz = PySem.Str.ofString "writings"; (focus (subst hz7; rfl)); by_cases hz8 : zz = PySem.Str.ofString "things"; (focus (subst hz8; rfl)); by_cases hz9 : zz = PySem.Str.ofString "row"; (focus (subst hz9; rfl)); by_cases hz10 : zz = PySem.Str.ofString "script"; (focus (subst hz10; rfl)); (try dsimp only); (try simp only [if_neg hz0]); (try simp only [if_neg hz1]); (try simp only [if_neg hz2]); (try simp only [if_neg hz3]); (try simp only [if_neg hz4]); (try simp only [if_neg hz5]); (try simp only [if_neg hz6]); (try simp only [if_neg hz7]); (try simp only [if_neg hz8]); (try simp only [if_neg hz9]); (try simp only [if_neg hz10]); (try rfl))
end law_b12
theorem law_b12 {w : World} {A : Around} {E : Value → Shared → Prop} {s : Shared} {base : Heap} {mg : Str → Option Value} {mb : Str → Option Value} {mean : ExcName → Option Value} {Q : Value → Shared → Prop} {outer : List Env} {g : Heap} {l : Addr} {L' : Addr} {D : Addr} {T : Addr} {W : Addr} {LO : Addr} {SH : Addr} {SP : Addr} {TU : Addr} {pa : Addr} {ts : List (Str × Tok)} {z : Nat} {hs : Str} {th : Tok} {t21 : Tok} {news : List (Addr × Obj)} {body : List Stmt} {scope : Scope} {qual : Str} {cdv : Value}
   (hdef : LawDef w body scope qual cdv) (G : Gr w A base outer mean mg mb g) (hh : A.handled = none) (hd : A.depth + 10 < recursionLimit) (hu : A.units + 300 < cLine) (F : Fr g L' s.heap (lawMap l { row := some (.ref D), things := some (.ref T), writings := some (.ref W), longs := some (.ref LO), shorts := some (.ref SH), spoiled := some (.ref SP), turned := some (.ref TU) })) (N : News g L' s.heap news) (hL : (LO, lobj (strValues ts) z) ∈ news) (hn : ts.length ≤ 100) (ha : ∀ r ∈ ts.map (·.1), Asc r ∧ r.length ≤ 500) (H : HostAt L' news hs th pa t21) : wpAny (model PROG w) (A.deeper (envOfC qual scope L' 188 cdv)) (execs ((body.drop 12).take 1) (envOfC qual scope L' 188 cdv))
    (fun f s' => Hold (f = .next ∧ ∃ h tk J, s' = { s with heap := h, toks := tk } ∧ Fr g L' h (lawMap l { row := some (.ref D), things := some (.ref T), writings := some (.ref W), longs := some (.ref LO), shorts := some (.ref SH), spoiled := some (.ref SP), turned := some (.ref TU), good := some (.ref J) }) ∧ News g L' h ((J, LCg.lst (strValues (ts.filter okR))) :: news))) (fun _ _ => False) s :=
  (eps_at (G := fun q => law_b12.Stm q.1 q.2.1 q.2.2.1 q.2.2.2.1 q.2.2.2.2.1 q.2.2.2.2.2.1 q.2.2.2.2.2.2.1 q.2.2.2.2.2.2.2.1 q.2.2.2.2.2.2.2.2.1 q.2.2.2.2.2.2.2.2.2.1 q.2.2.2.2.2.2.2.2.2.2.1 q.2.2.2.2.2.2.2.2.2.2.2.1 q.2.2.2.2.2.2.2.2.2.2.2.2.1 q.2.2.2.2.2.2.2.2.2.2.2.2.2.1 q.2.2.2.2.2.2.2.2.2.2.2.2.2.2.1 q.2.2.2.2.2.2.2.2.2.2.2.2.2.2.2.1 q.2.2.2.2.2.2.2.2.2.2.2.2.2.2.2.2.1 q.2.2.2.2.2.2.2.2.2.2.2.2.2.2.2.2.2.1 q.2.2.2.2.2.2.2.2.2.2.2.2.2.2.2.2.2.2.1 q.2.2.2.2.2.2.2.2.2.2.2.2.2.2.2.2.2.2.2.1 q.2.2.2.2.2.2.2.2.2.2.2.2.2.2.2.2.2.2.2.2.1 q.2.2.2.2.2.2.2.2.2.2.2.2.2.2.2.2.2.2.2.2.2.1 q.2.2.2.2.2.2.2.2.2.2.2.2.2.2.2.2.2.2.2.2.2.2.1 q.2.2.2.2.2.2.2.2.2.2.2.2.2.2.2.2.2.2.2.2.2.2.2.1 q.2.2.2.2.2.2.2.2.2.2.2.2.2.2.2.2.2.2.2.2.2.2.2.2.1 q.2.2.2.2.2.2.2.2.2.2.2.2.2.2.2.2.2.2.2.2.2.2.2.2.2.1 q.2.2.2.2.2.2.2.2.2.2.2.2.2.2.2.2.2.2.2.2.2.2.2.2.2.2) (c := law_b12.cst) rfl law_b12.it (w, A, E, s, base, mg, mb, mean, Q, outer, g, l, L', D, T, W, LO, SH, SP, TU, pa, ts, z, hs, th, t21, news) : law_b12.Stm w A E s base mg mb mean Q outer g l L' D T W LO SH SP TU pa ts z hs th t21 news) body scope qual cdv hdef G hh hd hu F N hL hn ha H
end Mine
end

section
namespace Mine
set_option maxRecDepth 100000
set_option maxHeartbeats 1000000
set_option linter.all false
noncomputable def T152 (h : Heap) : Prop := h.get? 152 = some (tabObj #[]) ∨ ∃ c', h.get? 152 = some (tabObj #[rawInt 159, rawInt 22, .ref c']) ∧ h.CodeRec (.ref c') lamQual
theorem fold_law {w : World} {A : Around} {E : Value → Shared → Prop} {s : Shared} {base : Heap} {mg mb : Str → Option Value} {mean : ExcName → Option Value} {Q : Value → Shared → Prop} {outer : List Env} {g : Heap} {hs : Str} {th t0 : Tok} {n0 : Int} {l p L' : Addr} {z z2 : Nat} {rs : List (Str × Tok)} {m : Str → Option Value} {scope : Scope} {qual : Str} {cdv : Value} {news : List (Addr × Obj)}
   (G : Gr w A base outer mean mg mb g) (XB : (Mine.KC w.params).In base) (TB : Top EMP LS mean mg mb base) (hh : A.handled = none) (hd : A.depth + 10 < recursionLimit) (hu : A.units + 300 < cLine)
   (F : Fr g L' s.heap m) (N : News g L' s.heap news) (hsk : scope.kind = .function) (hg : g.get? 152 = none) (hL : L' ≠ 152) (hne : ∀ p ∈ news, p.1 ≠ 152) (tab : T152 s.heap) (hl : (l, lobj (strValues rs) z) ∈ news) (hr : ∀ r ∈ rs.map (·.1), Asc r ∧ r.length ≤ 500 ∧ parseF r ≠ .reply)
   (hp : (p, ({ cls := .type "tuple", data := .seq #[.str hs th, .int n0 t0] z2 } : Obj)) ∈ news)
   (ret : ∀ v g2 h' tk, KtsTurn (outer.filterMap (·.frame)) g g2 → Gr w A base outer mean mg mb g2 → g2.get? 152 = none → Fr g2 L' h' m → News g2 L' h' news → T152 h' → Reads h' v (walkD hs (walkF (rs.map (·.1)) n0)) [] → Q v { s with heap := h', toks := tk }) :
   wpC (model PROG w) (A.deeper (envOfC qual scope L' 188 cdv)) (call (.ref 157) [.ref l, .ref p]) Q E s := by
  have off : ∀ b o, g.get? b = some o → b ≠ 152 := fun b o e q => by rw [q, hg] at e; cases e
  have F1 : Fr g L' (hideAll s.heap [152]) m := ⟨(by obtain ⟨oL, es, ep, hL1, r⟩ := F.ns; exact ⟨oL, es, ep, hideAll_get _ hL1 (by simpa using hL), r⟩), fun b o e => hideAll_get _ (F.keep b o e) (by simpa using off b o e), F.above⟩
  have N1 : News g L' (hideAll s.heap [152]) news := fun q hq => ⟨hideAll_get _ (N q hq).1 (by simpa using hne q hq), (N q hq).2⟩
  have kh : Kp (hideAll s.heap [152]) s.heap := fun b o e => of_hideAll _ e
  refine folded_spec (g := hideAll s.heap [152]) (belowX G.B F (hk := hsk)) (G.X.keeps F.keep) (G.T.keeps F.keep) hh ⟨belowX G.B F1 (hk := hsk), G.X.keeps F1.keep, G.T.keeps F1.keep, Gr.dictsE rfl G F1⟩ XB TB kh (Nat.le_of_eq (hideAll_size _ _)) (hideAll_none _ (by simp)) ?tab ?_ ?_ ⟨_, (N1 _ hl).1, rfl, _, rfl⟩ hr ⟨_, (N1 _ hp).1, rfl, _, rfl⟩ ?_
  case tab =>
    rcases tab with h | ⟨c', h, c2, oc, vs, t, e, hoc, hd, hv⟩
    · exact .inl h
    · refine .inr ⟨c', h, c2, oc, vs, t, e, hideAll_get _ hoc ?_, hd, hv⟩
      simp only [List.mem_singleton]
      intro q
      rw [q, h] at hoc
      injection hoc with hoc
      subst hoc
      injection hd with hd
      subst hd
      simp [rawInt] at hv
  · show A.depth + 1 + 5 < recursionLimit; omega
  · show A.units + 3 + 200 < cLine; omega
  intro v g' h' tk c' Tn k hP hc hrd
  obtain ⟨g2, Tn2, F5, N5, G2⟩ := after_turnE rfl G XB TB F1 N1 Tn k
  exact ret v g2 h' tk Tn2 G2 (Tn2.none_ _ hg) F5 N5 (.inr ⟨c', hP, hc⟩) hrd
theorem walkF_start {rs : List Str} (h : rs ≠ []) (hr : ∀ r ∈ rs, parseF r ≠ .reply) (n m : Int) : walkF rs n = walkF rs m := by
  cases rs with
  | nil => exact absurd rfl h
  | cons r rs => rfl
theorem walkD_shaped {hs : Str} (hok : PyData.strOk hs = true) {rs : List Str} (ha : ∀ r ∈ rs, Asc r) (n : Int) : SeqAt.shaped (walkD hs (walkF rs n)) = true := by
  have key : ∀ k, (∀ r, k = Wk.proto r → Asc r) → SeqAt.shaped (walkD hs k) = true := by
    intro k hk
    cases k with
    | ok n => exact pair_shaped hok n
    | proto r =>
      have := strOk_asc (hk r rfl)
      have h2 : PyData.strOk (Str.ofString "proto") = true := by decide +kernel
      simp [walkD, SeqAt.shaped, PyData.canLay0, PyData.canLayAll0, PyData.depth, PyData.depthAll, this, h2]
    | value =>
      show SeqAt.shaped (.tuple [.str (Str.ofString "value"), .str (Str.ofString "")]) = true
      decide +kernel
  refine key _ fun r e => ?_
  induction rs generalizing n with
  | nil => cases e
  | cons x rs ih =>
    unfold walkF at e
    have hx := ha x (.head _)
    have ih2 := fun n => ih (fun r hr => ha r (.tail _ hr)) n
    cases q : parseF x <;> rw [q] at e <;> dsimp only at e
    · injection e with e; rw [← e]; exact hx
    · injection e with e; rw [← e]; exact hx
    · cases e
    · exact ih2 _ e
theorem walkD_eqv (hs : Str) (k : Wk) : PyData.eqv (walkD hs k) (walkD hs k) = true := by
  cases k <;> simp [walkD, PyData.eqv, PyData.eqvAll]
noncomputable def law_b13.Stm (w : World) (A : Around) (E : Value → Shared → Prop) (s : Shared) (base : Heap) (mg : Str → Option Value) (mb : Str → Option Value) (mean : ExcName → Option Value) (Q : Value → Shared → Prop) (outer : List Env) (g : Heap) (l : Addr) (L' : Addr) (D : Addr) (T : Addr) (W : Addr) (LO : Addr) (SH : Addr) (SP : Addr) (TU : Addr) (GO : Addr) (pa : Addr) (us : List (Str × Tok)) (vs : List (Str × Tok)) (z : Nat) (z2 : Nat) (hs : Str) (th : Tok) (t21 : Tok) (news : List (Addr × Obj)) : Prop := ∀ (body : List Stmt) (scope : Scope) (qual : Str) (cdv : Value) (hdef : LawDef w body scope qual cdv) (G : Gr w A base outer mean mg mb g) (hh : A.handled = none) (XB : (Mine.KC w.params).In base) (TB : Top EMP LS mean mg mb base) (hd : A.depth + 10 < recursionLimit) (hu : A.units + 300 < cLine) (F : Fr g L' s.heap (lawMap l { row := some (.ref D), things := some (.ref T), writings := some (.ref W), longs := some (.ref LO), shorts := some (.ref SH), spoiled := some (.ref SP), turned := some (.ref TU), good := some (.ref GO) })) (N : News g L' s.heap news) (hg : g.get? 152 = none) (hL' : L' ≠ 152) (hne : ∀ p ∈ news, p.1 ≠ 152) (tab : T152 s.heap) (hG : (GO, lobj (strValues us) z) ∈ news) (hT : (TU, lobj (strValues vs) z2) ∈ news) (hr1 : ∀ r ∈ us.map (·.1), Asc r ∧ r.length ≤ 500 ∧ parseF r ≠ .reply) (hr2 : ∀ r ∈ vs.map (·.1), Asc r ∧ r.length ≤ 500 ∧ parseF r ≠ .reply) (hn1 : us ≠ []) (hn2 : vs ≠ []) (H : HostAt L' news hs th pa t21) (hok : PyData.strOk hs = true), wpC (model PROG w) (A.deeper (envOfC qual scope L' 188 cdv)) (execs ((body.drop 13).take 1) (envOfC qual scope L' 188 cdv))
    (fun f s' => Hold (f = .next ∧ ∃ g2 h tk, s' = { s with heap := h, toks := tk } ∧ KtsTurn (outer.filterMap (·.frame)) g g2 ∧ Gr w A base outer mean mg mb g2 ∧ Fr g2 L' h (lawMap l { row := some (.ref D), things := some (.ref T), writings := some (.ref W), longs := some (.ref LO), shorts := some (.ref SH), spoiled := some (.ref SP), turned := some (.ref TU), good := some (.ref GO) }) ∧ News g2 L' h news ∧ T152 h)) (fun _ _ => False) s
noncomputable def law_b13.cst : (World) × (Around) × (Value → Shared → Prop) × (Shared) × (Heap) × (Str → Option Value) × (Str → Option Value) × (ExcName → Option Value) × (Value → Shared → Prop) × (List Env) × (Heap) × (Addr) × (Addr) × (Addr) × (Addr) × (Addr) × (Addr) × (Addr) × (Addr) × (Addr) × (Addr) × (Addr) × (List (Str × Tok)) × (List (Str × Tok)) × (Nat) × (Nat) × (Str) × (Tok) × (Tok) × (List (Addr × Obj)) := eps (aWorld 0, {}, fun _ _ => True, {}, {}, fun _ => none, fun _ => none, fun _ => none, fun _ _ => True, [], {}, 0, 0, 0, 0, 0, 0, 0, 0, 0, 0, 0, [], [], 0, 0, Str.empty, 0, 0, []) (fun q => law_b13.Stm q.1 q.2.1 q.2.2.1 q.2.2.2.1 q.2.2.2.2.1 q.2.2.2.2.2.1 q.2.2.2.2.2.2.1 q.2.2.2.2.2.2.2.1 q.2.2.2.2.2.2.2.2.1 q.2.2.2.2.2.2.2.2.2.1 q.2.2.2.2.2.2.2.2.2.2.1 q.2.2.2.2.2.2.2.2.2.2.2.1 q.2.2.2.2.2.2.2.2.2.2.2.2.1 q.2.2.2.2.2.2.2.2.2.2.2.2.2.1 q.2.2.2.2.2.2.2.2.2.2.2.2.2.2.1 q.2.2.2.2.2.2.2.2.2.2.2.2.2.2.2.1 q.2.2.2.2.2.2.2.2.2.2.2.2.2.2.2.2.1 q.2.2.2.2.2.2.2.2.2.2.2.2.2.2.2.2.2.1 q.2.2.2.2.2.2.2.2.2.2.2.2.2.2.2.2.2.2.1 q.2.2.2.2.2.2.2.2.2.2.2.2.2.2.2.2.2.2.2.1 q.2.2.2.2.2.2.2.2.2.2.2.2.2.2.2.2.2.2.2.2.1 q.2.2.2.2.2.2.2.2.2.2.2.2.2.2.2.2.2.2.2.2.2.1 q.2.2.2.2.2.2.2.2.2.2.2.2.2.2.2.2.2.2.2.2.2.2.1 q.2.2.2.2.2.2.2.2.2.2.2.2.2.2.2.2.2.2.2.2.2.2.2.1 q.2.2.2.2.2.2.2.2.2.2.2.2.2.2.2.2.2.2.2.2.2.2.2.2.1 q.2.2.2.2.2.2.2.2.2.2.2.2.2.2.2.2.2.2.2.2.2.2.2.2.2.1 q.2.2.2.2.2.2.2.2.2.2.2.2.2.2.2.2.2.2.2.2.2.2.2.2.2.2.1 q.2.2.2.2.2.2.2.2.2.2.2.2.2.2.2.2.2.2.2.2.2.2.2.2.2.2.2.1 q.2.2.2.2.2.2.2.2.2.2.2.2.2.2.2.2.2.2.2.2.2.2.2.2.2.2.2.2.1 q.2.2.2.2.2.2.2.2.2.2.2.2.2.2.2.2.2.2.2.2.2.2.2.2.2.2.2.2.2)
namespace law_b13
noncomputable def A : Around := cst.2.1
noncomputable def s : Shared := cst.2.2.2.1
noncomputable def L' : Addr := cst.2.2.2.2.2.2.2.2.2.2.2.2.1
noncomputable def us : List (Str × Tok) := cst.2.2.2.2.2.2.2.2.2.2.2.2.2.2.2.2.2.2.2.2.2.2.1
noncomputable def vs : List (Str × Tok) := cst.2.2.2.2.2.2.2.2.2.2.2.2.2.2.2.2.2.2.2.2.2.2.2.1
noncomputable def hs : Str := cst.2.2.2.2.2.2.2.2.2.2.2.2.2.2.2.2.2.2.2.2.2.2.2.2.2.2.1
noncomputable def th : Tok := cst.2.2.2.2.2.2.2.2.2.2.2.2.2.2.2.2.2.2.2.2.2.2.2.2.2.2.2.1
noncomputable def t21 : Tok := cst.2.2.2.2.2.2.2.2.2.2.2.2.2.2.2.2.2.2.2.2.2.2.2.2.2.2.2.2.1
theorem it : Stm cst.1 A cst.2.2.1 s cst.2.2.2.2.1 cst.2.2.2.2.2.1 cst.2.2.2.2.2.2.1 cst.2.2.2.2.2.2.2.1 cst.2.2.2.2.2.2.2.2.1 cst.2.2.2.2.2.2.2.2.2.1 cst.2.2.2.2.2.2.2.2.2.2.1 cst.2.2.2.2.2.2.2.2.2.2.2.1 L' cst.2.2.2.2.2.2.2.2.2.2.2.2.2.1 cst.2.2.2.2.2.2.2.2.2.2.2.2.2.2.1 cst.2.2.2.2.2.2.2.2.2.2.2.2.2.2.2.1 cst.2.2.2.2.2.2.2.2.2.2.2.2.2.2.2.2.1 cst.2.2.2.2.2.2.2.2.2.2.2.2.2.2.2.2.2.1 cst.2.2.2.2.2.2.2.2.2.2.2.2.2.2.2.2.2.2.1 cst.2.2.2.2.2.2.2.2.2.2.2.2.2.2.2.2.2.2.2.1 cst.2.2.2.2.2.2.2.2.2.2.2.2.2.2.2.2.2.2.2.2.1 cst.2.2.2.2.2.2.2.2.2.2.2.2.2.2.2.2.2.2.2.2.2.1 us vs cst.2.2.2.2.2.2.2.2.2.2.2.2.2.2.2.2.2.2.2.2.2.2.2.2.1 cst.2.2.2.2.2.2.2.2.2.2.2.2.2.2.2.2.2.2.2.2.2.2.2.2.2.1 hs th t21 cst.2.2.2.2.2.2.2.2.2.2.2.2.2.2.2.2.2.2.2.2.2.2.2.2.2.2.2.2.2 := by
  intro body scope qual cdv hdef G hh XB TB hd hu F N hg hL' hne tab hG hT hr1 hr2 hn1 hn2 H hok
  have hfill : (fun (_ : OpenLaw) (_ : Params → Frag) => True) PySem.Challenge.rw_nq0040_01 Mine.KC := by (k_fill; trivial)
  clear hfill
  w_top off
  obtain ⟨oc, od, name, params, dV, kV, doc, pm, an, ct, osl, hlk⟩ := hdef
  k_dflt (refine' lit_def ?li hlk ?_; (case li => k_is); k_whole)
  rintro rfl rfl rfl rfl
  dsimp only [List.drop, List.take]
  have G0 := G
  obtain ⟨oh, op, zt, hmh, hmp, hdh, hdp, htu⟩ := H
  obtain ⟨B2, X2, T2, D2⟩ := G
  refine wpC_execs_cons (wpC_If (wpC_isTrue_Or (wpC_isTrue_Compare (fun _ => rfl) (wpC_Call_Name ?_))))
  repeat' (first | ((with_reducible show wpAny _ _ (eval (PySem.Expr.Name _ _) _) _ _ _); name_kind "cell"; refine Hold.it ?_) | walk_at "m1")
  refine wpC_callWith1 ?_ rfl rfl
  repeat' (first | ((with_reducible show wpAny _ _ (eval (PySem.Expr.Name _ _) _) _ _ _); name_kind "cell"; refine Hold.it ?_) | walk_at "m1")
  refine ⟨?_⟩
  refine' nameX_C (c := L' + 1 + 1) N ?ca hmp hdp ?_ ?cb ?cc
  case ca => rfl
  case cb => rfl
  case cc => rfl
  repeat' (first | ((with_reducible show wpAny _ _ (eval (PySem.Expr.Name _ _) _) _ _ _); name_kind "cell"; refine Hold.it ?_) | walk_at "m1")
  · refine' kept_K (X2.keeps (Fr.keep (by assumption))) ?k
    case k => k_is
  refine fold_law (hs := hs) (th := th) (n0 := 21) (t0 := t21) G0 XB TB hh hd hu F N rfl hg hL' hne tab hG hr1 htu ?_
  intro v1 g2 h2 tk2 Tn2 G2 hg2 F2 N2 tab2 R1
  have G2' := G2
  obtain ⟨B5, X5, T5, D5⟩ := G2'
  have X2' := X2
  clear X2 T2 B2 D2
  repeat' (first | ((with_reducible show wpAny _ _ (eval (PySem.Expr.Name _ _) _) _ _ _); name_kind "cell"; refine Hold.it ?_) | walk_at "m1")
  refine ⟨?_⟩
  refine' nameX_C (c := L' + 1) N2 ?ca2 hmh hdh ?_ ?cb2 ?cc2
  case ca2 => rfl
  case cb2 => rfl
  case cc2 => rfl
  repeat' (first | ((with_reducible show wpAny _ _ (eval (PySem.Expr.Name _ _) _) _ _ _); name_kind "cell"; refine Hold.it ?_) | walk_at "m1")
  refine walked_spec (rs := us) (belowX B5 F2) (X5.keeps F2.keep) (T5.keeps F2.keep) hh ?_ ?_ ⟨_, (N2 _ hG).1, rfl, _, rfl⟩ hr1 hok ?_
  · show A.depth + 1 + 3 < recursionLimit; omega
  · show A.units + 3 + 100 < cLine; omega
  intro v2 h3 tk3 k3 R2
  have F3 := F2.keeps k3
  have N3 := N2.grown k3
  have R1' := PyProof.Rows.Reads.keeps k3 R1
  rw [walkF_start (by simpa using hn1) (fun r hr => (hr1 r hr).2.2) 0 21] at R2
  clear F2 N2 R1
  have has1 : ∀ r ∈ us.map (·.1), Asc r := fun r hr => (hr1 r hr).1
  refine wpAny_operateT ?_
  refine ne_dataH R1' R2 (walkD_shaped hok has1 _) (walkD_shaped hok has1 _) ?_ ?_
  · show A.units + 3 + 64 < cLine; omega
  rw [walkD_eqv]
  refine wpAny_truthy_bool ?_
  dsimp only [Bool.not_true]
  rw [if_neg (by simp)]
  have tab3 : T152 h3 := by
    rcases tab2 with h | ⟨c', h, c2, oc, vs, t, e, hoc, r⟩
    · exact .inl (k3 _ _ h)
    · exact .inr ⟨c', k3 _ _ h, c2, oc, vs, t, e, k3 _ _ hoc, r⟩
  refine wpC_isTrue_Compare (fun _ => rfl) (wpC_Call_Name ?_)
  repeat' (first | ((with_reducible show wpAny _ _ (eval (PySem.Expr.Name _ _) _) _ _ _); name_kind "cell"; refine Hold.it ?_) | walk_at "m1")
  refine wpC_callWith1 ?_ rfl rfl
  repeat' (first | ((with_reducible show wpAny _ _ (eval (PySem.Expr.Name _ _) _) _ _ _); name_kind "cell"; refine Hold.it ?_) | walk_at "m1")
  refine ⟨?_⟩
  refine' nameX_C (c := L' + 1 + 1) N3 ?da hmp hdp ?_ ?db ?dc
  case da => rfl
  case db => rfl
  case dc => rfl
  repeat' (first | ((with_reducible show wpAny _ _ (eval (PySem.Expr.Name _ _) _) _ _ _); name_kind "cell"; refine Hold.it ?_) | walk_at "m1")
  · exact kept_K (X5.keeps F3.keep) (by k_is)
  refine fold_law (hs := hs) (th := th) (n0 := 21) (t0 := t21) G2 XB TB hh hd hu F3 N3 rfl hg2 hL' hne tab3 hT hr2 htu ?_
  intro v5 g5 h5 tk5 Tn5 G5 hg5 F5 N5 tab5 R5
  obtain ⟨B6, X6, T6, D6⟩ := id G5
  clear X5 T5 B5 D5 F3 N3
  repeat' (first | ((with_reducible show wpAny _ _ (eval (PySem.Expr.Name _ _) _) _ _ _); name_kind "cell"; refine Hold.it ?_) | walk_at "m1")
  refine ⟨?_⟩
  refine' nameX_C (c := L' + 1) N5 ?da2 hmh hdh ?_ ?db2 ?dc2
  case da2 => rfl
  case db2 => rfl
  case dc2 => rfl
  repeat' (first | ((with_reducible show wpAny _ _ (eval (PySem.Expr.Name _ _) _) _ _ _); name_kind "cell"; refine Hold.it ?_) | walk_at "m1")
  refine walked_spec (rs := vs) (belowX B6 F5) (X6.keeps F5.keep) (T6.keeps F5.keep) hh ?_ ?_ ⟨_, (N5 _ hT).1, rfl, _, rfl⟩ hr2 hok ?_
  · show A.depth + 1 + 3 < recursionLimit; omega
  · show A.units + 3 + 100 < cLine; omega
  intro v6 h6 tk6 k6 R6
  have F6 := F5.keeps k6
  have N6 := N5.grown k6
  have R5' := PyProof.Rows.Reads.keeps k6 R5
  rw [walkF_start (by simpa using hn2) (fun r hr => (hr2 r hr).2.2) 0 21] at R6
  clear F5 N5 R5
  have has2 : ∀ r ∈ vs.map (·.1), Asc r := fun r hr => (hr2 r hr).1
  refine wpAny_operateT ?_
  refine ne_dataH R5' R6 (walkD_shaped hok has2 _) (walkD_shaped hok has2 _) ?_ ?_
  · show A.units + 3 + 64 < cLine; omega
  rw [walkD_eqv]
  refine wpAny_truthy_bool ?_
  dsimp only [Bool.not_true]
  rw [if_neg (by simp)]
  have tab6 : T152 h6 := by
    rcases tab5 with h | ⟨c', h, c2, oc, vs, t, e, hoc, r⟩
    · exact .inl (k6 _ _ h)
    · exact .inr ⟨c', k6 _ _ h, c2, oc, vs, t, e, k6 _ _ hoc, r⟩
  refine wpC_execs_nil (wpC_execs_nil ?_)
  exact ⟨rfl, g5, h6, tk6, rfl, Tn2.trans Tn5, G5, F6, N6, tab6⟩
end law_b13
theorem law_b13 {w : World} {A : Around} {E : Value → Shared → Prop} {s : Shared} {base : Heap} {mg : Str → Option Value} {mb : Str → Option Value} {mean : ExcName → Option Value} {Q : Value → Shared → Prop} {outer : List Env} {g : Heap} {l : Addr} {L' : Addr} {D : Addr} {T : Addr} {W : Addr} {LO : Addr} {SH : Addr} {SP : Addr} {TU : Addr} {GO : Addr} {pa : Addr} {us : List (Str × Tok)} {vs : List (Str × Tok)} {z : Nat} {z2 : Nat} {hs : Str} {th : Tok} {t21 : Tok} {news : List (Addr × Obj)} {body : List Stmt} {scope : Scope} {qual : Str} {cdv : Value}
   (hdef : LawDef w body scope qual cdv) (G : Gr w A base outer mean mg mb g) (hh : A.handled = none) (XB : (Mine.KC w.params).In base) (TB : Top EMP LS mean mg mb base) (hd : A.depth + 10 < recursionLimit) (hu : A.units + 300 < cLine) (F : Fr g L' s.heap (lawMap l { row := some (.ref D), things := some (.ref T), writings := some (.ref W), longs := some (.ref LO), shorts := some (.ref SH), spoiled := some (.ref SP), turned := some (.ref TU), good := some (.ref GO) })) (N : News g L' s.heap news) (hg : g.get? 152 = none) (hL' : L' ≠ 152) (hne : ∀ p ∈ news, p.1 ≠ 152) (tab : T152 s.heap) (hG : (GO, lobj (strValues us) z) ∈ news) (hT : (TU, lobj (strValues vs) z2) ∈ news) (hr1 : ∀ r ∈ us.map (·.1), Asc r ∧ r.length ≤ 500 ∧ parseF r ≠ .reply) (hr2 : ∀ r ∈ vs.map (·.1), Asc r ∧ r.length ≤ 500 ∧ parseF r ≠ .reply) (hn1 : us ≠ []) (hn2 : vs ≠ []) (H : HostAt L' news hs th pa t21) (hok : PyData.strOk hs = true) : wpC (model PROG w) (A.deeper (envOfC qual scope L' 188 cdv)) (execs ((body.drop 13).take 1) (envOfC qual scope L' 188 cdv))
    (fun f s' => Hold (f = .next ∧ ∃ g2 h tk, s' = { s with heap := h, toks := tk } ∧ KtsTurn (outer.filterMap (·.frame)) g g2 ∧ Gr w A base outer mean mg mb g2 ∧ Fr g2 L' h (lawMap l { row := some (.ref D), things := some (.ref T), writings := some (.ref W), longs := some (.ref LO), shorts := some (.ref SH), spoiled := some (.ref SP), turned := some (.ref TU), good := some (.ref GO) }) ∧ News g2 L' h news ∧ T152 h)) (fun _ _ => False) s :=
  (eps_at (G := fun q => law_b13.Stm q.1 q.2.1 q.2.2.1 q.2.2.2.1 q.2.2.2.2.1 q.2.2.2.2.2.1 q.2.2.2.2.2.2.1 q.2.2.2.2.2.2.2.1 q.2.2.2.2.2.2.2.2.1 q.2.2.2.2.2.2.2.2.2.1 q.2.2.2.2.2.2.2.2.2.2.1 q.2.2.2.2.2.2.2.2.2.2.2.1 q.2.2.2.2.2.2.2.2.2.2.2.2.1 q.2.2.2.2.2.2.2.2.2.2.2.2.2.1 q.2.2.2.2.2.2.2.2.2.2.2.2.2.2.1 q.2.2.2.2.2.2.2.2.2.2.2.2.2.2.2.1 q.2.2.2.2.2.2.2.2.2.2.2.2.2.2.2.2.1 q.2.2.2.2.2.2.2.2.2.2.2.2.2.2.2.2.2.1 q.2.2.2.2.2.2.2.2.2.2.2.2.2.2.2.2.2.2.1 q.2.2.2.2.2.2.2.2.2.2.2.2.2.2.2.2.2.2.2.1 q.2.2.2.2.2.2.2.2.2.2.2.2.2.2.2.2.2.2.2.2.1 q.2.2.2.2.2.2.2.2.2.2.2.2.2.2.2.2.2.2.2.2.2.1 q.2.2.2.2.2.2.2.2.2.2.2.2.2.2.2.2.2.2.2.2.2.2.1 q.2.2.2.2.2.2.2.2.2.2.2.2.2.2.2.2.2.2.2.2.2.2.2.1 q.2.2.2.2.2.2.2.2.2.2.2.2.2.2.2.2.2.2.2.2.2.2.2.2.1 q.2.2.2.2.2.2.2.2.2.2.2.2.2.2.2.2.2.2.2.2.2.2.2.2.2.1 q.2.2.2.2.2.2.2.2.2.2.2.2.2.2.2.2.2.2.2.2.2.2.2.2.2.2.1 q.2.2.2.2.2.2.2.2.2.2.2.2.2.2.2.2.2.2.2.2.2.2.2.2.2.2.2.1 q.2.2.2.2.2.2.2.2.2.2.2.2.2.2.2.2.2.2.2.2.2.2.2.2.2.2.2.2.1 q.2.2.2.2.2.2.2.2.2.2.2.2.2.2.2.2.2.2.2.2.2.2.2.2.2.2.2.2.2) (c := law_b13.cst) rfl law_b13.it (w, A, E, s, base, mg, mb, mean, Q, outer, g, l, L', D, T, W, LO, SH, SP, TU, GO, pa, us, vs, z, z2, hs, th, t21, news) : law_b13.Stm w A E s base mg mb mean Q outer g l L' D T W LO SH SP TU GO pa us vs z z2 hs th t21 news) body scope qual cdv hdef G hh XB TB hd hu F N hg hL' hne tab hG hT hr1 hr2 hn1 hn2 H hok
end Mine
end

section
open PySem.W.X
set_option linter.all false
namespace Mine
set_option maxRecDepth 100000
noncomputable def CQ {α : Type} (prog : Program) (w : World) (A B : Around) (k : Result → Sem α) (Q : α → Shared → Prop) (E : Value → Shared → Prop) : Fin → Shared → Prop := fun fin s' => match fin with
  | .done f => wpAny (model prog w) A (k (.ok f)) Q E s'
  | .again c' => c'.quiet = true ∧ codeAny (model prog w) B c' (fun r s'' => wpAny (model prog w) A (k r) Q E s'') s'
noncomputable def CE {α : Type} (prog : Program) (w : World) (A : Around) (k : Result → Sem α) (Q : α → Shared → Prop) (E : Value → Shared → Prop) : Value → Shared → Prop := fun e s' => wpAny (model prog w) A (k (.error e)) Q E s'
section
variable {α β : Type} {prog : Program} {w : World} {A : Around} {E : Value → Shared → Prop} {Q : α → Shared → Prop} {R : β → Shared → Prop} {h₀ h : Heap} {g : Array GenState} {d : Drawn} {t : Nat} {os : OsState} {news : List (Addr × Obj)}
theorem super_list {i : DecidableEq Value} {a : Addr} {c : Value} {m : List Value} (hc : c = .ref a) (hm : m = [.ref a, .type "object"]) : List.drop 1 (List.dropWhile (fun x => @bne Value (@instBEqOfDecidableEq Value i) x c) m) = [.type "object"] := by
  subst hc hm
  have : (@bne Value (@instBEqOfDecidableEq Value i) (.ref a) (.ref a)) = false := by simp
  simp only [List.dropWhile, this]
  rfl
end
end Mine
end

section
open PySem.W.X
set_option linter.all false
namespace Mine
set_option maxRecDepth 100000
set_option maxHeartbeats 0
end Mine
end

section
open PySem.W.X
set_option linter.all false
set_option genInjectivity false
set_option genSizeOf false
namespace Mine
set_option maxRecDepth 100000
theorem or_mid {a b c : Bool} (h : b = true) : ((a || b) || c) = true := by subst h; cases a <;> rfl
theorem vbne_self {i : DecidableEq Value} (a : Value) : (@bne Value (@instBEqOfDecidableEq Value i) a a) = false := by simp
theorem contains_self {i : DecidableEq Value} {a : Value} {l : List Value} : @List.contains Value (@instBEqOfDecidableEq Value i) (a :: l) a = true := by simp
theorem ite_same {i : DecidableEq Value} {a x y : Value} : (if (@BEq.beq Value (@instBEqOfDecidableEq Value i) a a) = true then x else y) = x := by
  have : (@BEq.beq Value (@instBEqOfDecidableEq Value i) a a) = true := by simp
  rw [if_pos this]
theorem filter_super {i : DecidableEq Value} {k : Addr} : List.filter (fun x => @bne Value (@instBEqOfDecidableEq Value i) x (.ref k)) [.ref k, .type "object"] = [.type "object"] := by
  have h1 : (@bne Value (@instBEqOfDecidableEq Value i) (.ref k) (.ref k)) = false := vbne_self _
  have h2 : (@bne Value (@instBEqOfDecidableEq Value i) (.type "object") (.ref k)) = true := by rw [@bne_iff_ne]; intro e; cases e
  simp only [List.filter, h1, h2]
structure MB where
  prog : Program
  w : World
  h₀ : Heap
  g : Array GenState
  d : Drawn
  os : OsState
structure MK (α : Type) where
  A : Around
  Q : α → Shared → Prop
  E : Value → Shared → Prop
noncomputable def dfO : Obj := ⟨.none, none, .plain, #[]⟩
noncomputable def nAd (l : List (Addr × Obj)) (i : Nat) : Option Addr := (l[i]?).map (·.1)
noncomputable def nOb (l : List (Addr × Obj)) (i : Nat) : Obj := ((l[i]?).map (·.2)).getD dfO
noncomputable def nA (l : List (Addr × Obj)) (i : Nat) : Addr := ((l[i]?).map (·.1)).getD 0
theorem nAd_some {l : List (Addr × Obj)} {i : Nat} {a : Addr} (e : some a = nAd l i) : l[i]? = some (a, nOb l i) := by
  unfold nAd at e
  unfold nOb
  cases h : l[i]? with
  | none => rw [h] at e; cases e
  | some p => rw [h] at e; cases e; rfl
section
variable {α : Type}
noncomputable def skN (g : Setting) (n : Nat) : Sem α → Sem α := @Nat.rec (fun _ => Sem α → Sem α) (fun T => T) (fun _ ih T => @Sem.casesOn α (fun _ => Sem α) T (fun x => .pure x) (fun x => .raise x) (fun x => .unsupported x) (fun x => .finish x) (fun _ k => ih (k ())) (fun _ k => ih (k ())) (fun x y z => .load x y z) (fun x y z u => .update x y z u) (fun x y => .alloc x y) (fun x y => .loadIfAlive x y) (fun _ k => ih (k ())) (fun x y => .register x y) (fun x => .fresh x) (fun k => ih (k g)) (fun x y z => .choose x y z) (fun x y z => .os x y z) (fun x y z u v => .call x y z u v) (fun x y => .handled x y) (fun x y => .newGen x y) (fun x y => .genState x y) (fun x y z u => .resume x y z u) (fun x y z u => .yield x y z u) (fun x => .stack x) (fun x y => .fork x y) (fun x => .thread x) (fun x y z u v => .await x y z u v)) n
theorem skN_eq (g : Setting) : ∀ (n : Nat) (T : Sem α), skN g n T = skim g n T
  | 0, _ => rfl
  | n + 1, T => by cases T <;> first | exact skN_eq g n _ | rfl
noncomputable def sk (b : MB) (T : Sem α) : Sem α := skN ⟨b.prog, b.w.params⟩ 1000 T
inductive Op (α : Type) where
  | no
  | load (a : Addr) (k : Obj → Sem α)
  | alloc (o : Obj) (k : Addr → Sem α)
  | update (a : Addr) (f : Obj → Obj) (k : Unit → Sem α)
  | fresh (k : Tok → Sem α)
  | handled (k : Option Value → Sem α)
  | call (c : Code) (hd : Option Value) (k : Result → Sem α)
  | pure (a : α)
  | raise (e : Value)
  | stack (k : List (Code × Pos) → Sem α)
noncomputable def view (T : Sem α) : Op α := @Sem.casesOn α (fun _ => Op α) T (fun a => .pure a) (fun e => .raise e) (fun _ => .no) (fun _ => .no) (fun _ _ => .no) (fun _ _ => .no) (fun a _ k => .load a k) (fun a _ f k => .update a f k) (fun o k => .alloc o k) (fun _ _ => .no) (fun _ _ => .no) (fun _ _ => .no) (fun k => .fresh k) (fun _ => .no) (fun _ _ _ => .no) (fun _ _ _ => .no) (fun c hd _ _ k => .call c hd k) (fun own k => @Bool.casesOn (fun _ => Op α) own (.handled k) .no) (fun _ _ => .no) (fun _ _ => .no) (fun _ _ _ _ => .no) (fun _ _ _ _ => .no) (fun k => .stack k) (fun _ _ => .no) (fun _ => .no) (fun _ _ _ _ _ => .no)
noncomputable def Op.Of (T : Sem α) : Op α → Prop
  | .no => True
  | .load a k => ∃ q, T = .load a q k
  | .alloc o k => T = .alloc o k
  | .update a f k => ∃ q, T = .update a q f k
  | .fresh k => T = .fresh k
  | .handled k => T = .handled false k
  | .call c hd k => ∃ g l, T = .call c hd g l k
  | .pure a => T = .pure a
  | .raise e => T = .raise e
  | .stack k => T = .stack k
theorem view_of (T : Sem α) : (view T).Of T := by
  cases T with
  | handled own k => cases own <;> first | exact rfl | exact trivial
  | _ => first | exact trivial | exact rfl | exact ⟨_, rfl⟩ | exact ⟨_, _, rfl⟩
noncomputable def vAd (v : Op α) : Option Addr := @Op.casesOn α (fun _ => Option Addr) v (none) (fun a _ => some a) (fun _ _ => none) (fun _ _ _ => none) (fun _ => none) (fun _ => none) (fun _ _ _ => none) (fun _ => none) (fun _ => none) (fun _ => none)
noncomputable def vL (v : Op α) (o : Obj) : Sem α := @Op.casesOn α (fun _ => Sem α) v (.unsupported "") (fun _ k => k o) (fun _ _ => .unsupported "") (fun _ _ _ => .unsupported "") (fun _ => .unsupported "") (fun _ => .unsupported "") (fun _ _ _ => .unsupported "") (fun _ => .unsupported "") (fun _ => .unsupported "") (fun _ => .unsupported "")
noncomputable def adL (T : Sem α) : Option Addr := vAd (view T)
noncomputable def kL (T : Sem α) (o : Obj) : Sem α := vL (view T) o
theorem adL_some {T : Sem α} {a : Addr} (e : adL T = some a) : ∃ q k, T = .load a q k ∧ ∀ o, kL T o = k o := by
  have key : ∀ v : Op α, v.Of T → vAd v = some a → ∃ q k, T = .load a q k ∧ ∀ o, vL v o = k o := by
    intro v h e
    cases v <;> cases e
    exact ⟨_, _, h.choose_spec, fun _ => rfl⟩
  exact key _ (view_of T) e
noncomputable def vO (v : Op α) : Obj := @Op.casesOn α (fun _ => Obj) v (dfO) (fun _ _ => dfO) (fun o _ => o) (fun _ _ _ => dfO) (fun _ => dfO) (fun _ => dfO) (fun _ _ _ => dfO) (fun _ => dfO) (fun _ => dfO) (fun _ => dfO)
noncomputable def vA (v : Op α) (a : Addr) : Sem α := @Op.casesOn α (fun _ => Sem α) v (.unsupported "") (fun _ _ => .unsupported "") (fun _ k => k a) (fun _ _ _ => .unsupported "") (fun _ => .unsupported "") (fun _ => .unsupported "") (fun _ _ _ => .unsupported "") (fun _ => .unsupported "") (fun _ => .unsupported "") (fun _ => .unsupported "")
noncomputable def vOk (v : Op α) : Bool := @Op.casesOn α (fun _ => Bool) v (false) (fun _ _ => false) (fun o _ => !o.isFreed) (fun _ _ _ => false) (fun _ => false) (fun _ => false) (fun _ _ _ => false) (fun _ => false) (fun _ => false) (fun _ => false)
noncomputable def oA (T : Sem α) : Obj := vO (view T)
noncomputable def kA (T : Sem α) (a : Addr) : Sem α := vA (view T) a
noncomputable def okA (T : Sem α) : Bool := vOk (view T)
theorem okA_true {T : Sem α} (e : okA T = true) : ∃ o k, T = .alloc o k ∧ o.isFreed = false ∧ oA T = o ∧ ∀ a, kA T a = k a := by
  have key : ∀ v : Op α, v.Of T → vOk v = true → ∃ o k, T = .alloc o k ∧ o.isFreed = false ∧ vO v = o ∧ ∀ a, vA v a = k a := by
    intro v h e
    cases v
    case alloc o k => exact ⟨o, k, h, by simpa [vOk] using e, rfl, fun _ => rfl⟩
    all_goals cases e
  exact key _ (view_of T) e
noncomputable def vUd (v : Op α) : Option Addr := @Op.casesOn α (fun _ => Option Addr) v (none) (fun _ _ => none) (fun _ _ => none) (fun a _ _ => some a) (fun _ => none) (fun _ => none) (fun _ _ _ => none) (fun _ => none) (fun _ => none) (fun _ => none)
noncomputable def vF (v : Op α) (o : Obj) : Obj := @Op.casesOn α (fun _ => Obj) v (o) (fun _ _ => o) (fun _ _ => o) (fun _ f _ => f o) (fun _ => o) (fun _ => o) (fun _ _ _ => o) (fun _ => o) (fun _ => o) (fun _ => o)
noncomputable def vU (v : Op α) : Sem α := @Op.casesOn α (fun _ => Sem α) v (.unsupported "") (fun _ _ => .unsupported "") (fun _ _ => .unsupported "") (fun _ _ k => k ()) (fun _ => .unsupported "") (fun _ => .unsupported "") (fun _ _ _ => .unsupported "") (fun _ => .unsupported "") (fun _ => .unsupported "") (fun _ => .unsupported "")
noncomputable def adU (T : Sem α) : Option Addr := vUd (view T)
noncomputable def fU (T : Sem α) (o : Obj) : Obj := vF (view T) o
noncomputable def kU (T : Sem α) : Sem α := vU (view T)
theorem adU_some {T : Sem α} {a : Addr} (e : adU T = some a) : ∃ q f k, T = .update a q f k ∧ (∀ o, fU T o = f o) ∧ kU T = k () := by
  have key : ∀ v : Op α, v.Of T → vUd v = some a → ∃ q f k, T = .update a q f k ∧ (∀ o, vF v o = f o) ∧ vU v = k () := by
    intro v h e
    cases v <;> cases e
    exact ⟨_, _, _, h.choose_spec, fun _ => rfl, rfl⟩
  exact key _ (view_of T) e
noncomputable def vN (v : Op α) : Nat := @Op.casesOn α (fun _ => Nat) v (0) (fun _ _ => 0) (fun _ _ => 0) (fun _ _ _ => 0) (fun _ => 1) (fun _ => 2) (fun _ hd _ => @Bool.casesOn (fun _ => Nat) (okMark hd) 0 3) (fun _ => 0) (fun _ => 0) (fun _ => 4)
noncomputable def vK (v : Op α) (t : Tok) : Sem α := @Op.casesOn α (fun _ => Sem α) v (.unsupported "") (fun _ _ => .unsupported "") (fun _ _ => .unsupported "") (fun _ _ _ => .unsupported "") (fun k => k t) (fun k => k none) (fun _ _ _ => .unsupported "") (fun _ => .unsupported "") (fun _ => .unsupported "") (fun _ => .unsupported "")
noncomputable def nO (T : Sem α) : Nat := vN (view T)
noncomputable def kF (T : Sem α) (t : Tok) : Sem α := vK (view T) t
theorem nO_1 {T : Sem α} (e : nO T = 1) : ∃ k, T = .fresh k ∧ ∀ t, kF T t = k t := by
  have key : ∀ v : Op α, v.Of T → vN v = 1 → ∃ k, T = .fresh k ∧ ∀ t, vK v t = k t := by
    intro v h e
    cases v
    case fresh k => exact ⟨k, h, fun _ => rfl⟩
    case call c hd k => change @Bool.casesOn (fun _ => Nat) (okMark hd) 0 3 = _ at e; revert e; cases okMark hd <;> (intro e; cases e)
    all_goals cases e
  exact key _ (view_of T) e
noncomputable def vC (v : Op α) : Code := @Op.casesOn α (fun _ => Code) v (.builtin "" {}) (fun _ _ => .builtin "" {}) (fun _ _ => .builtin "" {}) (fun _ _ _ => .builtin "" {}) (fun _ => .builtin "" {}) (fun _ => .builtin "" {}) (fun c _ _ => c) (fun _ => .builtin "" {}) (fun _ => .builtin "" {}) (fun _ => .builtin "" {})
noncomputable def vH (v : Op α) : Option Value := @Op.casesOn α (fun _ => Option Value) v (none) (fun _ _ => none) (fun _ _ => none) (fun _ _ _ => none) (fun _ => none) (fun _ => none) (fun _ hd _ => hd) (fun _ => none) (fun _ => none) (fun _ => none)
noncomputable def vR (v : Op α) : Result → Sem α := @Op.casesOn α (fun _ => Result → Sem α) v (fun _ => .unsupported "") (fun _ _ => fun _ => .unsupported "") (fun _ _ => fun _ => .unsupported "") (fun _ _ _ => fun _ => .unsupported "") (fun _ => fun _ => .unsupported "") (fun _ => fun _ => .unsupported "") (fun _ _ k => k) (fun _ => fun _ => .unsupported "") (fun _ => fun _ => .unsupported "") (fun _ => fun _ => .unsupported "")
noncomputable def cdC (T : Sem α) : Code := vC (view T)
noncomputable def hdC (T : Sem α) : Option Value := vH (view T)
noncomputable def kC (T : Sem α) : Result → Sem α := vR (view T)
theorem nO_3 {T : Sem α} (e : nO T = 3) : ∃ g l, T = .call (cdC T) (hdC T) g l (kC T) ∧ hdC T ≠ some byPass := by
  have key : ∀ v : Op α, v.Of T → vN v = 3 → ∃ g l, T = .call (vC v) (vH v) g l (vR v) ∧ vH v ≠ some byPass := by
    intro v h e
    cases v
    case call c hd k =>
      obtain ⟨g, l, h⟩ := h
      refine ⟨g, l, h, ?_⟩
      rintro q
      have q : hd = some byPass := q
      subst q
      simp [vN, okMark] at e
    all_goals cases e
  exact key _ (view_of T) e
noncomputable def rsOf (v : Op Fin) : Option (Result ⊕ Code) := @Op.casesOn Fin (fun _ => Option (Result ⊕ Code)) v (none) (fun _ _ => none) (fun _ _ => none) (fun _ _ _ => none) (fun _ => none) (fun _ => none) (fun _ _ _ => none) (fun f => @PySem.Fin.casesOn (fun _ => Option (Result ⊕ Code)) f (fun f => some (.inl (.ok f))) (fun c => some (.inr c))) (fun e => some (.inl (.error e))) (fun _ => none)
noncomputable def rsR (T : Sem Fin) : Result := @Option.casesOn (Result ⊕ Code) (fun _ => Result) (rsOf (view T)) (.ok .next) (fun x => @Sum.casesOn Result Code (fun _ => Result) x (fun r => r) (fun c => .ok .next))
noncomputable def cdG (T : Sem Fin) : Code := @Option.casesOn (Result ⊕ Code) (fun _ => Code) (rsOf (view T)) (.builtin "" {}) (fun x => @Sum.casesOn Result Code (fun _ => Code) x (fun r => .builtin "" {}) (fun c => c))
noncomputable def nR (T : Sem Fin) : Nat := @Option.casesOn (Result ⊕ Code) (fun _ => Nat) (rsOf (view T)) (0) (fun x => @Sum.casesOn Result Code (fun _ => Nat) x (fun r => 1) (fun c => @Bool.casesOn (fun _ => Nat) c.quiet 0 2))
theorem rsOf_inl {v : Op Fin} {r : Result} {T : Sem Fin} (h : v.Of T) (e : rsOf v = some (.inl r)) : (∃ f, T = .pure (.done f) ∧ r = .ok f) ∨ ∃ x, T = .raise x ∧ r = .error x := by
  cases v
  case pure f => cases f <;> cases e; exact .inl ⟨_, h, rfl⟩
  case raise x => cases e; exact .inr ⟨_, h, rfl⟩
  all_goals cases e
theorem rsOf_inr {v : Op Fin} {c : Code} {T : Sem Fin} (h : v.Of T) (e : rsOf v = some (.inr c)) : T = .pure (.again c) := by
  cases v
  case pure f => cases f <;> cases e; exact h
  all_goals cases e
theorem nR_1 {T : Sem Fin} (e : nR T = 1) : rsOf (view T) = some (.inl (rsR T)) := by
  unfold nR at e
  unfold rsR
  revert e
  rcases rsOf (view T) with _ | r | c <;> intro e
  · cases e
  · rfl
  · revert e; dsimp only; cases c.quiet <;> (intro e; cases e)
theorem nR_2 {T : Sem Fin} (e : nR T = 2) : rsOf (view T) = some (.inr (cdG T)) ∧ (cdG T).quiet = true := by
  unfold nR at e
  unfold cdG
  revert e
  rcases rsOf (view T) with _ | r | c <;> intro e
  · cases e
  · cases e
  · refine ⟨rfl, ?_⟩
    revert e; dsimp only; cases c.quiet <;> (intro e; first | rfl | cases e)
noncomputable def denX (c : Code) : Sem Fin := denote treeTable c
theorem denX_eq (c : Code) : denote table c = denX c := by rw [table_eq_tree]; rfl
noncomputable def MK.push (b : MB) (k : MK α) (T : Sem α) (code : Code) : MK Fin := ⟨(k.A.mark (hdC T)).under code, CQ b.prog b.w k.A (k.A.mark (hdC T)) (kC T) k.Q k.E, CE b.prog b.w k.A (kC T) k.Q k.E⟩
noncomputable def MU (b : MB) (k : MK α) (as : Nat → Addr) (m : Nat) (news : List (Addr × Obj)) (t : Tok) (T : Sem α) : Prop :=
  (∀ i, as i = b.h₀.objs.size + i) → ∀ h, Mem b.h₀ h [] news → h.objs.size = b.h₀.objs.size + m → wpAny (model b.prog b.w) k.A T k.Q k.E ⟨h, b.g, b.d, t, b.os⟩
variable {b : MB} {k : MK α} {as : Nat → Addr} {m : Nat} {news : List (Addr × Obj)} {t : Tok} {T : Sem α}
theorem mu_go' {prog : Program} {w : World} {A : Around} {E : Value → Shared → Prop} {Q : α → Shared → Prop} {s : Shared} {T : Sem α} (ha : ∀ i, as i = s.heap.objs.size + i)
   (H : MU ⟨prog, w, s.heap, s.gens, s.drawn, s.os⟩ ⟨A, Q, E⟩ as 0 [] s.toks T) : wpAny (model prog w) A T Q E s := H ha s.heap (Mem.start _) rfl
theorem mu_go2 {prog : Program} {w : World} {A : Around} {E : Value → Shared → Prop} {Q : α → Shared → Prop} {s : Shared} {h₀ : Heap} {T : Sem α} (ha : ∀ i, as i = h₀.objs.size + i) (D : Mem h₀ s.heap [] news) (hs : s.heap.objs.size = h₀.objs.size)
   (H : MU ⟨prog, w, h₀, s.gens, s.drawn, s.os⟩ ⟨A, Q, E⟩ as 0 news s.toks T) : wpAny (model prog w) A T Q E s := H ha s.heap D hs
theorem mu_sk (H : MU b k as m news t (sk b T)) : MU b k as m news t T := fun ha h D hs => x_skim 1000 (by have := H ha h D hs; unfold sk at this; rwa [skN_eq] at this)
theorem mu_L (i : Nat) (H : MU b k as m news t (kL (sk b T) (nOb news i))) (e : (adL (sk b T), some (nA news i)) = (some (nA news i), nAd news i)) : MU b k as m news t T := mu_sk (by
  obtain ⟨q, k', hT, hk⟩ := adL_some (congrArg Prod.fst e)
  rw [hk] at H
  rw [hT]
  exact fun ha h D hs => x_load (D.at i _ _ (nAd_some (congrArg Prod.snd e))) (H ha h D hs))
noncomputable def kHas (K : Frag) (a : Addr) : Bool := (K.lookup a).isSome
noncomputable def kOb (K : Frag) (a : Addr) : Obj := (K.lookup a).getD dfO
theorem mu_K {K : Frag} (X : K.In b.h₀) (a : Addr) (H : MU b k as m news t (kL (sk b T) (kOb K a))) (e : (adL (sk b T), kHas K a) = (some a, true)) : MU b k as m news t T := mu_sk (by
  obtain ⟨q, k', hT, hk⟩ := adL_some (congrArg Prod.fst e)
  have e2 : (K.lookup a).isSome = true := congrArg Prod.snd e
  obtain ⟨o, ho⟩ := Option.isSome_iff_exists.mp e2
  have hb : kOb K a = o := by unfold kOb; rw [ho]; rfl
  rw [hk, hb] at H
  rw [hT]
  exact fun ha h D hs => x_load (D.old a o (X _ _ ho) (by simp [away])) (H ha h D hs))
theorem mu_O {a : Addr} {o : Obj} (ho : b.h₀.get? a = some o) (H : MU b k as m news t (kL (sk b T) o)) (e : adL (sk b T) = some a) : MU b k as m news t T := mu_sk (by
  obtain ⟨q, k', hT, hk⟩ := adL_some e
  rw [hk] at H
  rw [hT]
  exact fun ha h D hs => x_load (D.old a o ho (by simp [away])) (H ha h D hs))
theorem push_size (h : Heap) (o : Obj) : (h.push o).objs.size = h.objs.size + 1 := by simp [Heap.push]
theorem update_size (h : Heap) (a : Addr) (f : Obj → Obj) : (h.update a f).objs.size = h.objs.size := by simp [Heap.update]
theorem mu_A (H : MU b k as (m + 1) ((as m, oA (sk b T)) :: news) t (kA (sk b T) (as m))) (e : okA (sk b T) = true) : MU b k as m news t T := mu_sk (by
  obtain ⟨o, k', hT, hf, ho, hk⟩ := okA_true e
  rw [hk, ho] at H
  rw [hT]
  intro ha h D hs
  refine wpAny_bind (m := alloc o) (f := k') (wpAny_alloc ?_)
  have hz : h.objs.size = as m := by rw [ha m, hs]
  have := H ha (h.push o) (by have D' := D.alloc hf; rw [hz] at D'; exact D') (by rw [push_size, hs]; rfl)
  rw [hz]
  exact this)
theorem mu_U (i : Nat) (H : MU b k as m (news.set i (nA news i, fU (sk b T) (nOb news i))) t (kU (sk b T))) (e : (adU (sk b T), some (nA news i), (fU (sk b T) (nOb news i)).isFreed) = (some (nA news i), nAd news i, false)) : MU b k as m news t T := mu_sk (by
  obtain ⟨q, f, k', hT, hf, hk⟩ := adU_some (congrArg Prod.fst e)
  have e3 : (fU (sk b T) (nOb news i)).isFreed = false := congrArg (fun x => x.2.2) e
  have hn := nAd_some (congrArg (fun x => x.2.1) e)
  rw [hf, hk] at H
  rw [hf] at e3
  rw [hT]
  intro ha h D hs
  exact wpAny_bind (m := updatePart (nA news i) q f) (f := k') (wpAny_updatePart (D.at i _ _ hn) (H ha _ (D.update hn e3) (by rw [update_size, hs]))))
theorem mu_F (H : MU b k as m news (t + 1) (kF (sk b T) t)) (e : nO (sk b T) = 1) : MU b k as m news t T := mu_sk (by
  obtain ⟨k', hT, hk⟩ := nO_1 e
  rw [hk] at H
  rw [hT]
  exact fun ha h D hs => x_fresh (H ha h D hs))
theorem mu_C (H : MU b (k.push b (sk b T) (cdC (sk b T))) as m news t (denX (cdC (sk b T)))) (e : nO (sk b T) = 3) : MU b k as m news t T := mu_sk (by
  obtain ⟨g, l, hT, hnb⟩ := nO_3 e
  rw [hT]
  intro ha h D hs
  have := H ha h D hs
  rw [← denX_eq] at this
  exact x_call (x_code (wpAny_mono this (fun fin s' h' => by cases fin <;> exact h') fun _ _ h' => h')) hnb)
theorem mu_R {code : Code} {T' : Sem Fin} (H : MU b k as m news t (kC T (rsR (sk b T')))) (e : nR (sk b T') = 1) : MU b (k.push b T code) as m news t T' := mu_sk (by
  rcases rsOf_inl (view_of _) (nR_1 e) with ⟨f, hT, hr⟩ | ⟨v, hT, hr⟩
  · rw [hr] at H
    rw [hT]
    exact fun ha h D hs => wpAny_pure (H ha h D hs)
  · rw [hr] at H
    rw [hT]
    exact fun ha h D hs => x_raise (H ha h D hs))
theorem mu_G {code : Code} {T' : Sem Fin} (H : MU b (k.push b T (cdG (sk b T'))) as m news t (denX (cdG (sk b T')))) (e : nR (sk b T') = 2) : MU b (k.push b T code) as m news t T' := mu_sk (by
  have hT := rsOf_inr (view_of _) (nR_2 e).1
  have hq := (nR_2 e).2
  rw [hT]
  intro ha h D hs
  have := H ha h D hs
  rw [← denX_eq] at this
  exact wpAny_pure ⟨hq, x_code (wpAny_mono this (fun fin s' h' => by cases fin <;> exact h') fun _ _ h' => h')⟩)
theorem mu_enter {f : Unit → Sem α} {A₀ : Around} (n : Nat) (hl : b.h₀.NoLimit) (hd : A₀.depth + 10 < recursionLimit) (H : MU b k as m news t (f ())) (e : T = Sem.bind (enterFrame 0) f) (ed : (k.A.depth, Nat.ble n 10) = (A₀.depth + n, true)) : MU b k as m news t T := fun ha h D hs => by
  rw [e]
  have e1 : k.A.depth = A₀.depth + n := congrArg Prod.fst ed
  have e2 : n ≤ 10 := Nat.le_of_ble_eq_true (congrArg Prod.snd ed)
  exact wpAny_bind (m := enterFrame) (f := f) (wpAny_enterFrame (hl.keeps fun b o e => D.old b o e (by simp [away])) (by rw [e1]; omega) (H ha h D hs))
noncomputable def EC {β : Type} (C : Sem β → Sem α) : Prop := ∀ (M : Model) (Γ : Ctx) (Q : α → Pos → Shared → Prop) (E : Value → Pos → Shared → Prop), ∃ EE : Value → Pos → Shared → Prop, ∀ (T : Sem β) (p : Pos) (s : Shared), Sem.wp M Γ T (fun a p' s' => Sem.wp M Γ (C (.pure a)) Q E p' s') EE p s → Sem.wp M Γ (C T) Q E p s
theorem ec_id : EC (fun T : Sem α => T) := fun M Γ Q E => ⟨E, fun T p s h => h⟩
theorem ec_bind {β γ : Type} {C : Sem β → Sem γ} {f : γ → Sem α} (h : EC C) : EC (fun T => Sem.bind (C T) f) := fun M Γ Q E => by
  obtain ⟨EE, hE⟩ := h M Γ (fun a p s => Sem.wp M Γ (f a) Q E p s) E
  refine ⟨EE, fun T p s z => ?_⟩
  show Sem.wp M Γ (C T >>= f) Q E p s
  rw [Sem.wp_bind']
  refine hE T p s (Sem.wp_mono M Γ T (fun a p' s' y => ?_) (fun _ _ _ y => y) p s z)
  have y : Sem.wp M Γ (C (.pure a) >>= f) Q E p' s' := y
  rwa [Sem.wp_bind'] at y
theorem ec_keep {β : Type} {C : Sem β → Sem α} {vs : List Value} (h : EC C) : EC (fun T => Sem.keep vs (C T)) := fun M Γ Q E => by
  obtain ⟨EE, hE⟩ := h M Γ Q E
  refine ⟨EE, fun T p s z => ?_⟩
  rw [Sem.wp_keep]
  refine hE T p s (Sem.wp_mono M Γ T (fun a p' s' y => ?_) (fun _ _ _ y => y) p s z)
  rwa [Sem.wp_keep] at y
theorem ec_onRaise {β : Type} {C : Sem β → Sem α} {g : Value → Sem Unit} (h : EC C) : EC (fun T => Sem.onRaise (C T) g) := fun M Γ Q E => by
  obtain ⟨EE, hE⟩ := h M Γ Q (fun e p s => Sem.wp M Γ (g e) (fun _ p' s' => E e p' s') E p s)
  refine ⟨EE, fun T p s z => ?_⟩
  rw [Sem.wp_onRaise]
  refine hE T p s (Sem.wp_mono M Γ T (fun a p' s' y => ?_) (fun _ _ _ y => y) p s z)
  rwa [Sem.wp_onRaise] at y
theorem mu_enterC {C : Sem Unit → Sem α} {A₀ : Around} (n : Nat) (hC : EC C) (hl : b.h₀.NoLimit) (hd : A₀.depth + 10 < recursionLimit) (H : MU b k as m news t (C (.pure ()))) (e : T = C (enterFrame 0)) (ed : (k.A.depth, Nat.ble n 10) = (A₀.depth + n, true)) : MU b k as m news t T := fun ha h D hs => by
  rw [e]
  have e1 : k.A.depth = A₀.depth + n := congrArg Prod.fst ed
  have e2 : n ≤ 10 := Nat.le_of_ble_eq_true (congrArg Prod.snd ed)
  intro Γ p hΓ
  obtain ⟨EE, hE⟩ := hC (model b.prog b.w) Γ (fun a _ s' => k.Q a s') (fun e _ s' => k.E e s')
  refine hE _ p _ ?_
  have z := wpAny_enterFrame (M := model b.prog b.w) (A := k.A) (E := fun e s' => ∀ p', EE e p' s') (Q := fun a s' => ∀ p', Sem.wp (model b.prog b.w) Γ (C (.pure a)) (fun a _ s' => k.Q a s') (fun e _ s' => k.E e s') p' s') (s := ⟨h, b.g, b.d, t, b.os⟩)
    (hl.keeps fun b o e => D.old b o e (by simp [away])) (by rw [e1]; omega) (fun p' => H ha h D hs Γ p' hΓ) Γ p hΓ
  exact Sem.wp_mono _ Γ _ (fun a p' s' y => y p') (fun e p' s' y => y p') p _ z
theorem mu_decT {p : Prop} {i : Decidable p} {x : ¬ p → Sem α} {y : p → Sem α} (hp : p) (H : MU b k as m news t (y hp)) : MU b k as m news t (@Decidable.rec p (fun _ => Sem α) x y i) := by
  cases i with
  | isTrue h => exact H
  | isFalse h => exact absurd hp h
theorem mu_decF {p : Prop} {i : Decidable p} {x : ¬ p → Sem α} {y : p → Sem α} (hp : ¬ p) (H : MU b k as m news t (x hp)) : MU b k as m news t (@Decidable.rec p (fun _ => Sem α) x y i) := by
  cases i with
  | isTrue h => exact absurd h hp
  | isFalse h => exact H
theorem mu_E (T' : Sem α) (H : MU b k as m news t T') (e : T = T') : MU b k as m news t T := e ▸ H
theorem mu_anyM {β : Type} {f : β → Sem Bool} {l l' : List β} {g : Bool → Sem α} (hl : l = l') (H : MU b k as m news t (Sem.bind (List.anyM f l') g)) : MU b k as m news t (Sem.bind (List.anyM f l) g) := by subst hl; exact H
theorem mu_N (f : List (Addr × Obj) → List (Addr × Obj)) (H : MU b k as m (f news) t T) (e : news = f news) : MU b k as m news t T := by rw [e]; exact H
theorem mu_bindV {β : Type} {M : Sem β} {g : β → Sem α} (v : β) (e : M = Sem.pure v) (H : MU b k as m news t (g v)) : MU b k as m news t (Sem.bind M g) := by rw [e]; exact H
theorem mu_bind2 {β : Type} {M : Sem Bool} {g : Bool → Sem β} {g2 : β → Sem α} (H : MU b k as m news t (Sem.bind (g true) g2)) (e : M = Sem.pure true) : MU b k as m news t (Sem.bind (Sem.bind M g) g2) := by rw [e]; exact H
theorem mu_forIn {γ δ : Type} {l l' : List γ} {b0 : δ} {f : γ → δ → Sem (ForInStep δ)} {g : δ → Sem α} (hl : l = l') (H : MU b k as m news t (Sem.bind (forIn l' b0 f) g)) : MU b k as m news t (Sem.bind (forIn l b0 f) g) := by subst hl; exact H
theorem mu_ne (H : (∀ i j, Nat.beq i j = false → as i ≠ as j) → (∀ a o i, b.h₀.get? a = some o → a ≠ as i) → MU b k as m news t T) : MU b k as m news t T := fun ha h D hs =>
  H (fun i j n q => by
      rw [ha, ha] at q
      have : i = j := Nat.add_left_cancel q
      subst this
      rw [Nat.beq_refl] at n
      cases n)
    (fun a o i e q => by
      have := Heap.lt_size e
      rw [q, ha] at this
      exact Nat.not_lt.mpr (Nat.le_add_right _ _) this) ha h D hs
theorem mu_end (v : α) (H : ∀ h, Mem b.h₀ h [] news → (∀ i j, Nat.beq i j = false → as i ≠ as j) → k.Q v ⟨h, b.g, b.d, t, b.os⟩) (e : sk b T = Sem.pure v) : MU b k as m news t T := mu_sk (by
  rw [e]
  exact mu_ne fun n _ => fun ha h D hs => wpAny_pure (H h D n))
end
end Mine
end

section
open PySem.W.X
set_option linter.all false
set_option genInjectivity false
set_option genSizeOf false
namespace Mine
noncomputable def kMem (aC : Addr) (t : Tok) : Obj := { cls := .type "member_descriptor", data := .fields #[.str (Str.ofString "obj") t, .ref aC, .builtin "proto.slot", .builtin "proto.slot#set", rawInt 0] }
noncomputable def kCls (aC aN aB : Addr) (tk u3 : Tok) : Obj := ⟨.type "type", none, .cls { name := Str.ofString "K", bases := [.type "object"], mro := [.ref aC, .type "object"], ns := aN, qualname := Str.ofString "cmp_to_key.<locals>.K", hasDict := false, slotNames := [Str.ofString "obj"], hasDel := false },
  #[some (.ref aB), none, some (.str (Str.ofString "K") tk), some (.str (Str.ofString "cmp_to_key.<locals>.K") u3), some (.builtin "object.__new__"), some (.bool false)]⟩
noncomputable def kNs (aL aT f1 f2 f3 f4 f5 f6 aM : Addr) (x : Nat → Int) (u : Nat → Tok) (y1 y2 : Int) (t1 t2 : Tok) : Obj :=
  { cls := .type "dict", data := .dict #[⟨x 0, .str (Str.ofString "__module__") (u 0), .str (Str.ofString "cpy313.functools") (u 1)⟩, ⟨x 2, .str (Str.ofString "__firstlineno__") (u 4), .int 28 (u 5)⟩,
    ⟨x 3, .str (Str.ofString "__slots__") (u 6), .ref aL⟩, ⟨x 4, .str (Str.ofString "__init__") (u 7), .ref f1⟩, ⟨x 5, .str (Str.ofString "__lt__") (u 8), .ref f2⟩, ⟨x 6, .str (Str.ofString "__gt__") (u 9), .ref f3⟩, ⟨x 7, .str (Str.ofString "__eq__") (u 10), .ref f4⟩, ⟨x 8, .str (Str.ofString "__le__") (u 11), .ref f5⟩,
    ⟨x 9, .str (Str.ofString "__ge__") (u 12), .ref f6⟩, ⟨x 10, .str (Str.ofString "__hash__") (u 13), .none⟩, ⟨x 11, .str (Str.ofString "__static_attributes__") (u 14), .ref aT⟩,
    ⟨y1, .str (Str.ofString "obj") t1, .ref aM⟩, ⟨y2, .str (Str.ofString "__doc__") t2, .none⟩] 3 }
noncomputable def entAt (o : Obj) (i : Nat) : DictEntry := match o.data with | .dict es _ => (es.toList[i]?).getD ⟨0, .none, .none⟩ | _ => ⟨0, .none, .none⟩
noncomputable def tokOf : Value → Tok | .str _ t => t | _ => 0
noncomputable def tokI : Value → Tok | .int _ t => t | _ => 0
noncomputable def fldAt (o : Obj) (i : Nat) : Value := match o.data with | .fields vs => (vs.toList[i]?).getD .none | _ => .none
noncomputable def slAt (o : Obj) (i : Nat) : Value := ((o.slots.toList[i]?).bind id).getD .none
noncomputable def KDef (w : World) (bd : List Stmt) (sc : Scope) : Prop := ∃ oc od name qual params scope dV kV doc pm cdv ct an osl bases kws bind sts pos st, (Mine.KC w.params).lookup 65 = some ⟨oc, od, .func (fnOf name qual params [.ClassDef (Str.ofString "K") bases kws bd [] [] sc none bind sts pos, st] scope dV kV doc pm an cdv ct), osl⟩
theorem lit_k {K : Frag} {f : Addr} {P : Prop} {nm : Str} {name qual : Str} {params : Arguments} {bd : List Stmt} {sc scope : Scope} {dV kV doc pm cdv ct oc : Value} {an od : Option Addr} {osl : Array (Option Value)} {bases : List Expr} {kws : List Keyword} {bind : Str} {sts : List Str} {pos : Pos} {st : Stmt}
    {name' qual' : Str} {params' : Arguments} {bd' : List Stmt} {sc' scope' : Scope} {dV' kV' doc' pm' cdv' ct' oc' : Value} {an' od' : Option Addr} {osl' : Array (Option Value)} {bases' : List Expr} {kws' : List Keyword} {bind' : Str} {sts' : List Str} {pos' : Pos} {st' : Stmt}
    (h : K.lookup f = some ⟨oc, od, .func (fnOf name qual params [.ClassDef nm bases kws bd [] [] sc none bind sts pos, st] scope dV kV doc pm an cdv ct), osl⟩) (h' : K.lookup f = some ⟨oc', od', .func (fnOf name' qual' params' [.ClassDef nm bases' kws' bd' [] [] sc' none bind' sts' pos', st'] scope' dV' kV' doc' pm' an' cdv' ct'), osl'⟩)
    (k : bd' = bd → sc' = sc → P) : P := by
  rw [h] at h'
  injection h' with h'
  injection h' with _ _ h3 _
  injection h3 with h3
  have e1 := congrArg FuncData.body h3
  simp only [fnOf] at e1
  injection e1 with e1
  injection e1 with e1 _
  injection e1 with _ _ _ e1 _ _ e2
  exact k e1.symm e2.symm
noncomputable def FnAt (bd : List Stmt) (i : Nat) (name qual : Str) (clos : List (Str × Addr)) (mn : Value) (o : Obj) (c : Addr) : Prop := ∃ p b s pos doc ctv, bd[i]? = some (.FunctionDef name p b [] none [] s none name pos) ∧ o = fnMade name qual p b s clos doc mn c ctv
noncomputable def CodeQ (o : Obj) (qual : Str) : Prop := ∃ vs t, o.data = .fields vs ∧ vs[1]? = some (.str qual t)
structure KW where
  ad : Nat → Addr
  x : Nat → Int
  u : Nat → Tok
  q : Nat → Obj
noncomputable def KW.ns (k : KW) : Obj := kNs (k.ad 3) (k.ad 4) (k.ad 5) (k.ad 6) (k.ad 7) (k.ad 8) (k.ad 9) (k.ad 10) (k.ad 1) k.x k.u (k.x 20) (k.x 21) (k.u 23) (k.u 24)
structure KIn (bd : List Stmt) (mn : Value) (cm : Addr) (h : Heap) (aC : Addr) (k : KW) : Prop where
  hM : h.get? (k.ad 1) = some (kMem aC (k.u 20))
  hC : h.get? aC = some (kCls aC (k.ad 0) (k.ad 2) (k.u 21) (k.u 22))
  hN : h.get? (k.ad 0) = some k.ns
  h1 : h.get? (k.ad 5) = some (k.q 0)
  F1 : FnAt bd 2 (Str.ofString "__init__") (Str.ofString "cmp_to_key.<locals>.K.__init__") [] mn (k.q 0) (k.ad 11)
  hc1 : h.get? (k.ad 11) = some (k.q 1)
  Q1 : CodeQ (k.q 1) (Str.ofString "cmp_to_key.<locals>.K.__init__")
  h2 : h.get? (k.ad 6) = some (k.q 2)
  F2 : FnAt bd 3 (Str.ofString "__lt__") (Str.ofString "cmp_to_key.<locals>.K.__lt__") [(Str.ofString "mycmp", cm)] mn (k.q 2) (k.ad 12)
  hc2 : h.get? (k.ad 12) = some (k.q 3)
  Q2 : CodeQ (k.q 3) (Str.ofString "cmp_to_key.<locals>.K.__lt__")
noncomputable def KAt (_ : World) (bd : List Stmt) (mn : Value) (cm : Addr) (h : Heap) (aC : Addr) : Prop := ∃ k : KW, KIn bd mn cm h aC k
end Mine
end

section
open PySem.W.X
set_option linter.all false
set_option genInjectivity false
set_option genSizeOf false
namespace Mine
set_option maxRecDepth 100000
set_option maxHeartbeats 0
structure TP where
  w : World
  A : Around
  E : Value → Shared → Prop
  Q : Value → Shared → Prop
  s : Shared
  h₀ : Heap
  n : Nat
noncomputable def TP.as (p : TP) (i : Nat) : Addr := p.n + i + 12
noncomputable def TP.Good (p : TP) : Prop := p.h₀.objs.size = p.n + 12 → Mem p.h₀ p.s.heap [] [(60, tabObj #[])] → p.s.heap.objs.size = p.h₀.objs.size → p.A.handled = none → p.A.depth + 10 < recursionLimit → p.h₀.NoLimit → (Mine.KC p.w.params).In p.h₀ →
   (∀ (bd : List Stmt) (sc : Scope) (mn : Value) (cm aC cC : Addr) (ex : List (Addr × Obj)) (tk : Tok) (h' : Heap), KDef p.w bd sc → (∀ b o, p.h₀.get? b = some o → h'.get? b = some o) → h'.get? 60 = some (tabObj #[rawInt 28, rawInt 4, .ref cC]) → (∀ q ∈ ex, h'.get? q.1 = some q.2 ∧ p.h₀.get? q.1 = none ∧ q.1 ≠ 60) → (∀ h : Heap, (∀ q ∈ ex, h.get? q.1 = some q.2) → KAt p.w bd mn cm h aC ∧ ∃ oc, h.get? cm = some oc ∧ oc.data = .cell (some (.ref 171))) → p.Q (.ref aC) { p.s with heap := h', toks := tk }) →
   wpAny (model PROG p.w) p.A (call (.ref 65) [.ref 171]) p.Q p.E p.s
theorem tp_ne : Nonempty TP := ⟨⟨aWorld 0, {}, fun _ _ => True, fun _ _ => True, {}, {}, 0⟩⟩
noncomputable def tp : TP := @Classical.epsilon TP tp_ne fun p => ¬ p.Good
theorem tp_good (h : tp.Good) (p : TP) : p.Good := Classical.byContradiction fun n => (Classical.epsilon_spec (p := fun p : TP => ¬ p.Good) ⟨p, n⟩) h
noncomputable def fdOf (o : Obj) : FuncData := match o.data with | .func f => f | _ => default
noncomputable def bdOf (f : FuncData) : List Stmt := match f.body with | .stmts b => b | .expr _ => []
noncomputable def psOf : Option Stmt → Pos | some (.FunctionDef _ _ _ _ _ _ _ _ _ p) => p | _ => default
noncomputable def fldsOf (o : Obj) : Array Value := match o.data with | .fields v => v | _ => #[]
theorem fn_at {bd : List Stmt} {i : Nat} {name qual : Str} {clos : List (Str × Addr)} {mn : Value} {q : Obj} {c : Addr} (e1 : bd[i]? = some (.FunctionDef name (fdOf q).params (bdOf (fdOf q)) [] none [] (fdOf q).scope none name (psOf bd[i]?)))
   (e2 : q = fnMade name qual (fdOf q).params (bdOf (fdOf q)) (fdOf q).scope clos (fdOf q).doc mn c (fdOf q).closureTuple) : FnAt bd i name qual clos mn q c := ⟨_, _, _, _, _, _, e1, e2⟩
theorem code_q {o : Obj} {qual : Str} (e : (o.data, (fldsOf o)[1]?) = (.fields (fldsOf o), some (.str qual (tokOf (fldAt o 1))))) : CodeQ o qual := ⟨_, _, congrArg Prod.fst e, congrArg Prod.snd e⟩
theorem lit_id {K : Frag} {f : Addr} {oc : Value} {od : Option Addr} {dd : Data} {osl : Array (Option Value)} (h : K.lookup f = some ⟨oc, od, dd, osl⟩) : K.lookup f = some ⟨oc, od, dd, osl⟩ := h
noncomputable def bdK (o : Obj) : List Stmt := match bdOf (fdOf o) with | .ClassDef _ _ _ bd _ _ _ _ _ _ _ :: _ => bd | _ => []
noncomputable def scK (o : Obj) : Scope := match bdOf (fdOf o) with | .ClassDef _ _ _ _ _ _ sc _ _ _ _ :: _ => sc | _ => default
theorem kdef_at (w : World) : KDef w (bdK (kOb (KC w.params) 65)) (scK (kOb (KC w.params) 65)) := by
  have hfill : (fun (_ : OpenLaw) (_ : Params → Frag) => True) PySem.Challenge.rw_nq0040_01 Mine.KC := by (k_fill; trivial)
  clear hfill
  w_top off
  have h : ∃ bd sc, KDef w bd sc := by
    exact ⟨_, _, _, _, _, _, _, _, _, _, _, _, _, _, _, _, _, _, _, _, _, _, (lit_id (K := KC w.params) (f := 65) (by k_is))⟩
  obtain ⟨bd, sc, oc, od, name, qual, params, scope, dV, kV, doc, pm, cdv, ct, an, osl, bases, kws, bind, sts, pos, st, hlk⟩ := h
  have e : ∀ o, (KC w.params).lookup 65 = some o → kOb (KC w.params) 65 = o := fun o h => by unfold kOb; rw [h]; rfl
  rw [e _ hlk]
  exact ⟨oc, od, name, qual, params, scope, dV, kV, doc, pm, cdv, ct, an, osl, bases, kws, bind, sts, pos, st, hlk⟩
noncomputable def pick8 (N : List (Addr × Obj)) : List (Addr × Obj) := [2, 3, 4, 47, 48, 39, 40, 62].map fun i => (nA N i, nOb N i)
noncomputable def xOf (o : Obj) (i : Nat) : Int := (entAt o (i - 1)).hash
noncomputable def uOf (o : Obj) (i : Nat) : Tok := if i = 1 then tokOf (entAt o 0).val else if i = 5 then tokI (entAt o 1).val else tokOf (entAt o (if i = 0 then 0 else if i = 4 then 1 else i - 4)).key
noncomputable def kwOf (N : List (Addr × Obj)) : KW where
  ad i := [nA N 4, nA N 2, nA N 61, nA N 54, nA N 6, nA N 47, nA N 39, nA N 31, nA N 23, nA N 15, nA N 7, nA N 48, nA N 40].getD i 0
  x i := if i < 20 then xOf (nOb N 4) i else (entAt (nOb N 4) (i - 9)).hash
  u i := if i < 20 then uOf (nOb N 4) i else [tokOf (fldAt (nOb N 2) 0), tokOf (slAt (nOb N 3) 2), tokOf (slAt (nOb N 3) 3), tokOf (entAt (nOb N 4) 11).key, tokOf (entAt (nOb N 4) 12).key].getD (i - 20) 0
  q i := [nOb N 47, nOb N 48, nOb N 39, nOb N 40].getD i dfO
theorem tp_fin {N : List (Addr × Obj)} {h' : Heap} {tk : Tok} {bd : List Stmt} {sc : Scope} {mn : Value} (D : Mem tp.h₀ h' [] N) (hdef : KDef tp.w bd sc)
   (ret : ∀ (bd : List Stmt) (sc : Scope) (mn : Value) (cm aC cC : Addr) (ex : List (Addr × Obj)) (tk : Tok) (h' : Heap), KDef tp.w bd sc → (∀ b o, tp.h₀.get? b = some o → h'.get? b = some o) → h'.get? 60 = some (tabObj #[rawInt 28, rawInt 4, .ref cC]) → (∀ q ∈ ex, h'.get? q.1 = some q.2 ∧ tp.h₀.get? q.1 = none ∧ q.1 ≠ 60) → (∀ h : Heap, (∀ q ∈ ex, h.get? q.1 = some q.2) → KAt tp.w bd mn cm h aC ∧ ∃ oc, h.get? cm = some oc ∧ oc.data = .cell (some (.ref 171))) → tp.Q (.ref aC) { tp.s with heap := h', toks := tk })
   (e60 : N[64]? = some (60, tabObj #[rawInt 28, rawInt 4, .ref (tp.as 7)]))
   (eA : (nAd N 2, nAd N 3, nAd N 4, nAd N 47, nAd N 48, nAd N 39, nAd N 40, nAd N 62) = (some (nA N 2), some (nA N 3), some (nA N 4), some (nA N 47), some (nA N 48), some (nA N 39), some (nA N 40), some (nA N 62)))
   (eM : nOb N 2 = kMem (nA N 3) (tokOf (fldAt (nOb N 2) 0)))
   (eC : nOb N 3 = kCls (nA N 3) (nA N 4) (nA N 61) (tokOf (slAt (nOb N 3) 2)) (tokOf (slAt (nOb N 3) 3)))
   (eN : nOb N 4 = (kwOf N).ns)
   (F1 : FnAt bd 2 (Str.ofString "__init__") (Str.ofString "cmp_to_key.<locals>.K.__init__") [] mn (nOb N 47) (nA N 48)) (Q1 : CodeQ (nOb N 48) (Str.ofString "cmp_to_key.<locals>.K.__init__"))
   (F2 : FnAt bd 3 (Str.ofString "__lt__") (Str.ofString "cmp_to_key.<locals>.K.__lt__") [(Str.ofString "mycmp", nA N 62)] mn (nOb N 39) (nA N 40)) (Q2 : CodeQ (nOb N 40) (Str.ofString "cmp_to_key.<locals>.K.__lt__"))
   (eD : (nOb N 62).data = .cell (some (.ref 171))) : tp.Q (.ref (nA N 3)) { tp.s with heap := h', toks := tk } := by
  simp only [Prod.mk.injEq] at eA
  obtain ⟨a1, a2, a3, a4, a5, a6, a7, a8⟩ := eA
  have g : ∀ {i : Nat}, nAd N i = some (nA N i) → Nat.blt i 64 = true → h'.get? (nA N i) = some (nOb N i) ∧ tp.h₀.get? (nA N i) = none ∧ nA N i ≠ 60 := fun {i} e b => have z := D.nw (nA N i, nOb N i) (List.mem_of_getElem? (nAd_some e.symm)); ⟨z.1, z.2, D.ne i 64 _ _ _ _ (nAd_some e.symm) e60 b⟩
  refine ret bd sc mn (nA N 62) _ (tp.as 7) (pick8 N) tk h' hdef (fun b o e => D.old b o e (by simp [away])) (D.at 64 _ _ e60) (fun q hq => ?_) fun h hk => ?_
  · unfold pick8 at hq
    simp only [List.map_cons, List.map_nil, List.mem_cons, List.not_mem_nil, or_false] at hq
    rcases hq with rfl | rfl | rfl | rfl | rfl | rfl | rfl | rfl
    · exact g a1 rfl
    · exact g a2 rfl
    · exact g a3 rfl
    · exact g a4 rfl
    · exact g a5 rfl
    · exact g a6 rfl
    · exact g a7 rfl
    · exact g a8 rfl
  · have m : ∀ i, i ∈ [2, 3, 4, 47, 48, 39, 40, 62] → h.get? (nA N i) = some (nOb N i) := fun i hi => hk (nA N i, nOb N i) (List.mem_map.mpr ⟨i, hi, rfl⟩)
    exact ⟨⟨kwOf N, ⟨(m 2 (by decide)).trans (congrArg some eM), (m 3 (by decide)).trans (congrArg some eC), (m 4 (by decide)).trans (congrArg some eN), m 47 (by decide), F1, m 48 (by decide), Q1, m 39 (by decide), F2, m 40 (by decide), Q2⟩⟩, _, m 62 (by decide), eD⟩
theorem ctk_tp : tp.Good := by
  intro hz D hs hh hd hl X ret
  refine mu_go2 (as := tp.as) (fun i => by rw [hz]; show tp.n + i + 12 = tp.n + 12 + i; omega) D hs ?_
  (with_reducible refine' mu_C ?_ ?_); rotate_left; kernel_rfl
  (with_reducible refine' mu_K X 65 ?_ ?_); rotate_left; kernel_rfl
  (with_reducible refine' mu_K X 64 ?_ ?_); rotate_left; kernel_rfl
  (with_reducible refine' mu_A ?_ ?_); rotate_left; kernel_rfl
  (with_reducible refine' mu_A ?_ ?_); rotate_left; kernel_rfl
  (with_reducible refine' mu_L 0 ?_ ?_); rotate_left; kernel_rfl
  (with_reducible refine' mu_U 0 ?_ ?_); rotate_left; kernel_rfl
  with_unfolding_all (conv => arg 7; whnf)
  refine mu_enter 0 hl hd ?_ (by with_unfolding_all rfl) (by kernel_rfl)
  (with_reducible refine' mu_G ?_ ?_); rotate_left; kernel_rfl
  (with_reducible refine' mu_K X 0 ?_ ?_); rotate_left; kernel_rfl
  (with_reducible refine' mu_K X 3 ?_ ?_); rotate_left; kernel_rfl
  (with_reducible refine' mu_K X 0 ?_ ?_); rotate_left; kernel_rfl
  (with_reducible refine' mu_A ?_ ?_); rotate_left; kernel_rfl
  (with_reducible refine' mu_F ?_ ?_); rotate_left; kernel_rfl
  (with_reducible refine' mu_F ?_ ?_); rotate_left; kernel_rfl
  (with_reducible refine' mu_C ?_ ?_); rotate_left; kernel_rfl
  (with_reducible refine' mu_G ?_ ?_); rotate_left; kernel_rfl
  (with_reducible refine' mu_C ?_ ?_); rotate_left; kernel_rfl
  (with_reducible refine' mu_G ?_ ?_); rotate_left; kernel_rfl
  (with_reducible refine' mu_A ?_ ?_); rotate_left; kernel_rfl
  (with_reducible refine' mu_R ?_ ?_); rotate_left; kernel_rfl
  (with_reducible refine' mu_R ?_ ?_); rotate_left; kernel_rfl
  (with_reducible refine' mu_C ?_ ?_); rotate_left; kernel_rfl
  (with_reducible refine' mu_L 0 ?_ ?_); rotate_left; kernel_rfl
  (with_reducible refine' mu_G ?_ ?_); rotate_left; kernel_rfl
  (with_reducible refine' mu_A ?_ ?_); rotate_left; kernel_rfl
  (with_reducible refine' mu_R ?_ ?_); rotate_left; kernel_rfl
  (with_reducible refine' mu_L 0 ?_ ?_); rotate_left; kernel_rfl
  (with_reducible refine' mu_K X 64 ?_ ?_); rotate_left; kernel_rfl
  (with_reducible refine' mu_L 5 ?_ ?_); rotate_left; kernel_rfl
  (with_reducible refine' mu_F ?_ ?_); rotate_left; kernel_rfl
  (with_reducible refine' mu_F ?_ ?_); rotate_left; kernel_rfl
  (with_reducible refine' mu_F ?_ ?_); rotate_left; kernel_rfl
  (with_reducible refine' mu_F ?_ ?_); rotate_left; kernel_rfl
  (with_reducible refine' mu_A ?_ ?_); rotate_left; kernel_rfl
  (with_reducible refine' mu_A ?_ ?_); rotate_left; kernel_rfl
  (with_reducible refine' mu_F ?_ ?_); rotate_left; kernel_rfl
  (with_reducible refine' mu_F ?_ ?_); rotate_left; kernel_rfl
  (with_reducible refine' mu_A ?_ ?_); rotate_left; kernel_rfl
  (with_reducible refine' mu_L 8 ?_ ?_); rotate_left; kernel_rfl
  (with_reducible refine' mu_U 8 ?_ ?_); rotate_left; kernel_rfl
  (with_reducible refine' mu_L 8 ?_ ?_); rotate_left; kernel_rfl
  (with_reducible refine' mu_K X 3 ?_ ?_); rotate_left; kernel_rfl
  (with_reducible refine' mu_K X 4 ?_ ?_); rotate_left; kernel_rfl
  (with_reducible refine' mu_K X 3 ?_ ?_); rotate_left; kernel_rfl
  (with_reducible refine' mu_A ?_ ?_); rotate_left; kernel_rfl
  with_unfolding_all (conv => arg 7; whnf)
  refine mu_enterC 1 (ec_bind (ec_onRaise (ec_bind (ec_bind (ec_keep (ec_keep (ec_keep (ec_bind ec_id)))))))) hl hd ?_ (by with_unfolding_all rfl) (by kernel_rfl)
  (with_reducible refine' mu_L 4 ?_ ?_); rotate_left; kernel_rfl
  (with_reducible refine' mu_L 4 ?_ ?_); rotate_left; kernel_rfl
  (with_reducible refine' mu_K X 3 ?_ ?_); rotate_left; kernel_rfl
  (with_reducible refine' mu_L 4 ?_ ?_); rotate_left; kernel_rfl
  (with_reducible refine' mu_F ?_ ?_); rotate_left; kernel_rfl
  (with_reducible refine' mu_L 4 ?_ ?_); rotate_left; kernel_rfl
  (with_reducible refine' mu_U 4 ?_ ?_); rotate_left; kernel_rfl
  (with_reducible refine' mu_F ?_ ?_); rotate_left; kernel_rfl
  (with_reducible refine' mu_L 4 ?_ ?_); rotate_left; kernel_rfl
  (with_reducible refine' mu_F ?_ ?_); rotate_left; kernel_rfl
  (with_reducible refine' mu_L 4 ?_ ?_); rotate_left; kernel_rfl
  (with_reducible refine' mu_U 4 ?_ ?_); rotate_left; kernel_rfl
  (with_reducible refine' mu_F ?_ ?_); rotate_left; kernel_rfl
  (with_reducible refine' mu_L 4 ?_ ?_); rotate_left; kernel_rfl
  (with_reducible refine' mu_F ?_ ?_); rotate_left; kernel_rfl
  (with_reducible refine' mu_L 4 ?_ ?_); rotate_left; kernel_rfl
  (with_reducible refine' mu_U 4 ?_ ?_); rotate_left; kernel_rfl
  (with_reducible refine' mu_C ?_ ?_); rotate_left; kernel_rfl
  (with_reducible refine' mu_F ?_ ?_); rotate_left; kernel_rfl
  (with_reducible refine' mu_L 4 ?_ ?_); rotate_left; kernel_rfl
  (with_reducible refine' mu_F ?_ ?_); rotate_left; kernel_rfl
  (with_reducible refine' mu_L 4 ?_ ?_); rotate_left; kernel_rfl
  (with_reducible refine' mu_U 4 ?_ ?_); rotate_left; kernel_rfl
  (with_reducible refine' mu_F ?_ ?_); rotate_left; kernel_rfl
  (with_reducible refine' mu_A ?_ ?_); rotate_left; kernel_rfl
  (with_reducible refine' mu_L 5 ?_ ?_); rotate_left; kernel_rfl
  (with_reducible refine' mu_F ?_ ?_); rotate_left; kernel_rfl
  (with_reducible refine' mu_L 5 ?_ ?_); rotate_left; kernel_rfl
  (with_reducible refine' mu_U 5 ?_ ?_); rotate_left; kernel_rfl
  (with_reducible refine' mu_L 2 ?_ ?_); rotate_left; kernel_rfl
  (with_reducible refine' mu_L 3 ?_ ?_); rotate_left; kernel_rfl
  (with_reducible refine' mu_F ?_ ?_); rotate_left; kernel_rfl
  (with_reducible refine' mu_F ?_ ?_); rotate_left; kernel_rfl
  (with_reducible refine' mu_F ?_ ?_); rotate_left; kernel_rfl
  (with_reducible refine' mu_A ?_ ?_); rotate_left; kernel_rfl
  (with_reducible refine' mu_A ?_ ?_); rotate_left; kernel_rfl
  (with_reducible refine' mu_F ?_ ?_); rotate_left; kernel_rfl
  (with_reducible refine' mu_F ?_ ?_); rotate_left; kernel_rfl
  (with_reducible refine' mu_A ?_ ?_); rotate_left; kernel_rfl
  (with_reducible refine' mu_A ?_ ?_); rotate_left; kernel_rfl
  (with_reducible refine' mu_A ?_ ?_); rotate_left; kernel_rfl
  (with_reducible refine' mu_F ?_ ?_); rotate_left; kernel_rfl
  (with_reducible refine' mu_F ?_ ?_); rotate_left; kernel_rfl
  (with_reducible refine' mu_A ?_ ?_); rotate_left; kernel_rfl
  (with_reducible refine' mu_L 9 ?_ ?_); rotate_left; kernel_rfl
  (with_reducible refine' mu_U 9 ?_ ?_); rotate_left; kernel_rfl
  (with_reducible refine' mu_L 9 ?_ ?_); rotate_left; kernel_rfl
  (with_reducible refine' mu_K X 3 ?_ ?_); rotate_left; kernel_rfl
  (with_reducible refine' mu_K X 4 ?_ ?_); rotate_left; kernel_rfl
  (with_reducible refine' mu_K X 3 ?_ ?_); rotate_left; kernel_rfl
  (with_reducible refine' mu_A ?_ ?_); rotate_left; kernel_rfl
  (with_reducible refine' mu_L 12 ?_ ?_); rotate_left; kernel_rfl
  (with_reducible refine' mu_F ?_ ?_); rotate_left; kernel_rfl
  (with_reducible refine' mu_L 12 ?_ ?_); rotate_left; kernel_rfl
  (with_reducible refine' mu_U 12 ?_ ?_); rotate_left; kernel_rfl
  (with_reducible refine' mu_A ?_ ?_); rotate_left; kernel_rfl
  (with_reducible refine' mu_L 10 ?_ ?_); rotate_left; kernel_rfl
  (with_reducible refine' mu_L 11 ?_ ?_); rotate_left; kernel_rfl
  (with_reducible refine' mu_F ?_ ?_); rotate_left; kernel_rfl
  (with_reducible refine' mu_F ?_ ?_); rotate_left; kernel_rfl
  (with_reducible refine' mu_F ?_ ?_); rotate_left; kernel_rfl
  (with_reducible refine' mu_F ?_ ?_); rotate_left; kernel_rfl
  (with_reducible refine' mu_A ?_ ?_); rotate_left; kernel_rfl
  (with_reducible refine' mu_A ?_ ?_); rotate_left; kernel_rfl
  (with_reducible refine' mu_F ?_ ?_); rotate_left; kernel_rfl
  (with_reducible refine' mu_F ?_ ?_); rotate_left; kernel_rfl
  (with_reducible refine' mu_A ?_ ?_); rotate_left; kernel_rfl
  (with_reducible refine' mu_A ?_ ?_); rotate_left; kernel_rfl
  (with_reducible refine' mu_A ?_ ?_); rotate_left; kernel_rfl
  (with_reducible refine' mu_F ?_ ?_); rotate_left; kernel_rfl
  (with_reducible refine' mu_F ?_ ?_); rotate_left; kernel_rfl
  (with_reducible refine' mu_A ?_ ?_); rotate_left; kernel_rfl
  (with_reducible refine' mu_L 17 ?_ ?_); rotate_left; kernel_rfl
  (with_reducible refine' mu_U 17 ?_ ?_); rotate_left; kernel_rfl
  (with_reducible refine' mu_L 17 ?_ ?_); rotate_left; kernel_rfl
  (with_reducible refine' mu_K X 3 ?_ ?_); rotate_left; kernel_rfl
  (with_reducible refine' mu_K X 4 ?_ ?_); rotate_left; kernel_rfl
  (with_reducible refine' mu_K X 3 ?_ ?_); rotate_left; kernel_rfl
  (with_reducible refine' mu_A ?_ ?_); rotate_left; kernel_rfl
  (with_reducible refine' mu_L 20 ?_ ?_); rotate_left; kernel_rfl
  (with_reducible refine' mu_F ?_ ?_); rotate_left; kernel_rfl
  (with_reducible refine' mu_L 20 ?_ ?_); rotate_left; kernel_rfl
  (with_reducible refine' mu_U 20 ?_ ?_); rotate_left; kernel_rfl
  (with_reducible refine' mu_A ?_ ?_); rotate_left; kernel_rfl
  (with_reducible refine' mu_L 18 ?_ ?_); rotate_left; kernel_rfl
  (with_reducible refine' mu_L 19 ?_ ?_); rotate_left; kernel_rfl
  (with_reducible refine' mu_F ?_ ?_); rotate_left; kernel_rfl
  (with_reducible refine' mu_F ?_ ?_); rotate_left; kernel_rfl
  (with_reducible refine' mu_F ?_ ?_); rotate_left; kernel_rfl
  (with_reducible refine' mu_F ?_ ?_); rotate_left; kernel_rfl
  (with_reducible refine' mu_A ?_ ?_); rotate_left; kernel_rfl
  (with_reducible refine' mu_A ?_ ?_); rotate_left; kernel_rfl
  (with_reducible refine' mu_F ?_ ?_); rotate_left; kernel_rfl
  (with_reducible refine' mu_F ?_ ?_); rotate_left; kernel_rfl
  (with_reducible refine' mu_A ?_ ?_); rotate_left; kernel_rfl
  (with_reducible refine' mu_A ?_ ?_); rotate_left; kernel_rfl
  (with_reducible refine' mu_A ?_ ?_); rotate_left; kernel_rfl
  (with_reducible refine' mu_F ?_ ?_); rotate_left; kernel_rfl
  (with_reducible refine' mu_F ?_ ?_); rotate_left; kernel_rfl
  (with_reducible refine' mu_A ?_ ?_); rotate_left; kernel_rfl
  (with_reducible refine' mu_L 25 ?_ ?_); rotate_left; kernel_rfl
  (with_reducible refine' mu_U 25 ?_ ?_); rotate_left; kernel_rfl
  (with_reducible refine' mu_L 25 ?_ ?_); rotate_left; kernel_rfl
  (with_reducible refine' mu_K X 3 ?_ ?_); rotate_left; kernel_rfl
  (with_reducible refine' mu_K X 4 ?_ ?_); rotate_left; kernel_rfl
  (with_reducible refine' mu_K X 3 ?_ ?_); rotate_left; kernel_rfl
  (with_reducible refine' mu_A ?_ ?_); rotate_left; kernel_rfl
  (with_reducible refine' mu_L 28 ?_ ?_); rotate_left; kernel_rfl
  (with_reducible refine' mu_F ?_ ?_); rotate_left; kernel_rfl
  (with_reducible refine' mu_L 28 ?_ ?_); rotate_left; kernel_rfl
  (with_reducible refine' mu_U 28 ?_ ?_); rotate_left; kernel_rfl
  (with_reducible refine' mu_A ?_ ?_); rotate_left; kernel_rfl
  (with_reducible refine' mu_L 26 ?_ ?_); rotate_left; kernel_rfl
  (with_reducible refine' mu_L 27 ?_ ?_); rotate_left; kernel_rfl
  (with_reducible refine' mu_F ?_ ?_); rotate_left; kernel_rfl
  (with_reducible refine' mu_F ?_ ?_); rotate_left; kernel_rfl
  (with_reducible refine' mu_F ?_ ?_); rotate_left; kernel_rfl
  (with_reducible refine' mu_F ?_ ?_); rotate_left; kernel_rfl
  (with_reducible refine' mu_A ?_ ?_); rotate_left; kernel_rfl
  (with_reducible refine' mu_A ?_ ?_); rotate_left; kernel_rfl
  (with_reducible refine' mu_F ?_ ?_); rotate_left; kernel_rfl
  (with_reducible refine' mu_F ?_ ?_); rotate_left; kernel_rfl
  (with_reducible refine' mu_A ?_ ?_); rotate_left; kernel_rfl
  (with_reducible refine' mu_A ?_ ?_); rotate_left; kernel_rfl
  (with_reducible refine' mu_A ?_ ?_); rotate_left; kernel_rfl
  (with_reducible refine' mu_F ?_ ?_); rotate_left; kernel_rfl
  (with_reducible refine' mu_F ?_ ?_); rotate_left; kernel_rfl
  (with_reducible refine' mu_A ?_ ?_); rotate_left; kernel_rfl
  (with_reducible refine' mu_L 33 ?_ ?_); rotate_left; kernel_rfl
  (with_reducible refine' mu_U 33 ?_ ?_); rotate_left; kernel_rfl
  (with_reducible refine' mu_L 33 ?_ ?_); rotate_left; kernel_rfl
  (with_reducible refine' mu_K X 3 ?_ ?_); rotate_left; kernel_rfl
  (with_reducible refine' mu_K X 4 ?_ ?_); rotate_left; kernel_rfl
  (with_reducible refine' mu_K X 3 ?_ ?_); rotate_left; kernel_rfl
  (with_reducible refine' mu_A ?_ ?_); rotate_left; kernel_rfl
  (with_reducible refine' mu_L 36 ?_ ?_); rotate_left; kernel_rfl
  (with_reducible refine' mu_F ?_ ?_); rotate_left; kernel_rfl
  (with_reducible refine' mu_L 36 ?_ ?_); rotate_left; kernel_rfl
  (with_reducible refine' mu_U 36 ?_ ?_); rotate_left; kernel_rfl
  (with_reducible refine' mu_A ?_ ?_); rotate_left; kernel_rfl
  (with_reducible refine' mu_L 34 ?_ ?_); rotate_left; kernel_rfl
  (with_reducible refine' mu_L 35 ?_ ?_); rotate_left; kernel_rfl
  (with_reducible refine' mu_F ?_ ?_); rotate_left; kernel_rfl
  (with_reducible refine' mu_F ?_ ?_); rotate_left; kernel_rfl
  (with_reducible refine' mu_F ?_ ?_); rotate_left; kernel_rfl
  (with_reducible refine' mu_F ?_ ?_); rotate_left; kernel_rfl
  (with_reducible refine' mu_A ?_ ?_); rotate_left; kernel_rfl
  (with_reducible refine' mu_A ?_ ?_); rotate_left; kernel_rfl
  (with_reducible refine' mu_F ?_ ?_); rotate_left; kernel_rfl
  (with_reducible refine' mu_F ?_ ?_); rotate_left; kernel_rfl
  (with_reducible refine' mu_A ?_ ?_); rotate_left; kernel_rfl
  (with_reducible refine' mu_A ?_ ?_); rotate_left; kernel_rfl
  (with_reducible refine' mu_A ?_ ?_); rotate_left; kernel_rfl
  (with_reducible refine' mu_F ?_ ?_); rotate_left; kernel_rfl
  (with_reducible refine' mu_F ?_ ?_); rotate_left; kernel_rfl
  (with_reducible refine' mu_A ?_ ?_); rotate_left; kernel_rfl
  (with_reducible refine' mu_L 41 ?_ ?_); rotate_left; kernel_rfl
  (with_reducible refine' mu_U 41 ?_ ?_); rotate_left; kernel_rfl
  (with_reducible refine' mu_L 41 ?_ ?_); rotate_left; kernel_rfl
  (with_reducible refine' mu_K X 3 ?_ ?_); rotate_left; kernel_rfl
  (with_reducible refine' mu_K X 4 ?_ ?_); rotate_left; kernel_rfl
  (with_reducible refine' mu_K X 3 ?_ ?_); rotate_left; kernel_rfl
  (with_reducible refine' mu_A ?_ ?_); rotate_left; kernel_rfl
  (with_reducible refine' mu_L 44 ?_ ?_); rotate_left; kernel_rfl
  (with_reducible refine' mu_F ?_ ?_); rotate_left; kernel_rfl
  (with_reducible refine' mu_L 44 ?_ ?_); rotate_left; kernel_rfl
  (with_reducible refine' mu_U 44 ?_ ?_); rotate_left; kernel_rfl
  (with_reducible refine' mu_A ?_ ?_); rotate_left; kernel_rfl
  (with_reducible refine' mu_L 42 ?_ ?_); rotate_left; kernel_rfl
  (with_reducible refine' mu_L 43 ?_ ?_); rotate_left; kernel_rfl
  (with_reducible refine' mu_F ?_ ?_); rotate_left; kernel_rfl
  (with_reducible refine' mu_F ?_ ?_); rotate_left; kernel_rfl
  (with_reducible refine' mu_F ?_ ?_); rotate_left; kernel_rfl
  (with_reducible refine' mu_F ?_ ?_); rotate_left; kernel_rfl
  (with_reducible refine' mu_A ?_ ?_); rotate_left; kernel_rfl
  (with_reducible refine' mu_A ?_ ?_); rotate_left; kernel_rfl
  (with_reducible refine' mu_F ?_ ?_); rotate_left; kernel_rfl
  (with_reducible refine' mu_F ?_ ?_); rotate_left; kernel_rfl
  (with_reducible refine' mu_A ?_ ?_); rotate_left; kernel_rfl
  (with_reducible refine' mu_A ?_ ?_); rotate_left; kernel_rfl
  (with_reducible refine' mu_A ?_ ?_); rotate_left; kernel_rfl
  (with_reducible refine' mu_F ?_ ?_); rotate_left; kernel_rfl
  (with_reducible refine' mu_F ?_ ?_); rotate_left; kernel_rfl
  (with_reducible refine' mu_A ?_ ?_); rotate_left; kernel_rfl
  (with_reducible refine' mu_L 49 ?_ ?_); rotate_left; kernel_rfl
  (with_reducible refine' mu_U 49 ?_ ?_); rotate_left; kernel_rfl
  (with_reducible refine' mu_L 49 ?_ ?_); rotate_left; kernel_rfl
  (with_reducible refine' mu_K X 3 ?_ ?_); rotate_left; kernel_rfl
  (with_reducible refine' mu_K X 4 ?_ ?_); rotate_left; kernel_rfl
  (with_reducible refine' mu_K X 3 ?_ ?_); rotate_left; kernel_rfl
  (with_reducible refine' mu_A ?_ ?_); rotate_left; kernel_rfl
  (with_reducible refine' mu_L 52 ?_ ?_); rotate_left; kernel_rfl
  (with_reducible refine' mu_F ?_ ?_); rotate_left; kernel_rfl
  (with_reducible refine' mu_L 52 ?_ ?_); rotate_left; kernel_rfl
  (with_reducible refine' mu_U 52 ?_ ?_); rotate_left; kernel_rfl
  (with_reducible refine' mu_L 52 ?_ ?_); rotate_left; kernel_rfl
  (with_reducible refine' mu_F ?_ ?_); rotate_left; kernel_rfl
  (with_reducible refine' mu_L 52 ?_ ?_); rotate_left; kernel_rfl
  (with_reducible refine' mu_U 52 ?_ ?_); rotate_left; kernel_rfl
  (with_reducible refine' mu_R ?_ ?_); rotate_left; kernel_rfl
  (with_reducible refine' mu_F ?_ ?_); rotate_left; kernel_rfl
  (with_reducible refine' mu_A ?_ ?_); rotate_left; kernel_rfl
  (with_reducible refine' mu_L 53 ?_ ?_); rotate_left; kernel_rfl
  (with_reducible refine' mu_F ?_ ?_); rotate_left; kernel_rfl
  (with_reducible refine' mu_L 53 ?_ ?_); rotate_left; kernel_rfl
  (with_reducible refine' mu_U 53 ?_ ?_); rotate_left; kernel_rfl
  (with_reducible refine' mu_C ?_ ?_); rotate_left; kernel_rfl
  (with_reducible refine' mu_G ?_ ?_); rotate_left; kernel_rfl
  (with_reducible refine' mu_C ?_ ?_); rotate_left; kernel_rfl
  (with_reducible refine' mu_G ?_ ?_); rotate_left; kernel_rfl
  (with_reducible refine' mu_L 55 ?_ ?_); rotate_left; kernel_rfl
  (with_reducible refine' mu_L 53 ?_ ?_); rotate_left; kernel_rfl
  (with_reducible refine' mu_L 55 ?_ ?_); rotate_left; kernel_rfl
  (with_reducible refine' mu_L 53 ?_ ?_); rotate_left; kernel_rfl
  (with_reducible refine' mu_L 53 ?_ ?_); rotate_left; kernel_rfl
  (with_reducible refine' mu_L 48 ?_ ?_); rotate_left; kernel_rfl
  (with_reducible refine' mu_C ?_ ?_); rotate_left; kernel_rfl
  (with_reducible refine' mu_A ?_ ?_); rotate_left; kernel_rfl
  (with_reducible refine' mu_G ?_ ?_); rotate_left; kernel_rfl
  (with_reducible refine' mu_L 49 ?_ ?_); rotate_left; kernel_rfl
  with_unfolding_all (conv => arg 7; whnf)
  refine mu_decT (or_mid (by kernel_rfl)) ?_
  (with_reducible refine' mu_L 49 ?_ ?_); rotate_left; kernel_rfl
  (with_reducible refine' mu_L 0 ?_ ?_); rotate_left; kernel_rfl
  (with_reducible refine' mu_L 0 ?_ ?_); rotate_left; kernel_rfl
  (with_reducible refine' mu_U 0 ?_ ?_); rotate_left; kernel_rfl
  (with_reducible refine' mu_L 0 ?_ ?_); rotate_left; kernel_rfl
  (with_reducible refine' mu_R ?_ ?_); rotate_left; kernel_rfl
  (with_reducible refine' mu_L 0 ?_ ?_); rotate_left; kernel_rfl
  (with_reducible refine' mu_A ?_ ?_); rotate_left; kernel_rfl
  (with_reducible refine' mu_L 0 ?_ ?_); rotate_left; kernel_rfl
  (with_reducible refine' mu_L 0 ?_ ?_); rotate_left; kernel_rfl
  (with_reducible refine' mu_L 0 ?_ ?_); rotate_left; kernel_rfl
  (with_reducible refine' mu_A ?_ ?_); rotate_left; kernel_rfl
  (with_reducible refine' mu_U 0 ?_ ?_); rotate_left; kernel_rfl
  (with_reducible refine' mu_U 0 ?_ ?_); rotate_left; kernel_rfl
  (with_reducible refine' mu_U 0 ?_ ?_); rotate_left; kernel_rfl
  (with_reducible refine' mu_L 1 ?_ ?_); rotate_left; kernel_rfl
  (with_reducible refine' mu_U 1 ?_ ?_); rotate_left; kernel_rfl
  (with_reducible refine' mu_L 1 ?_ ?_); rotate_left; kernel_rfl
  (with_reducible refine' mu_L 1 ?_ ?_); rotate_left; kernel_rfl
  (with_reducible refine' mu_L 1 ?_ ?_); rotate_left; kernel_rfl
  (with_reducible refine' mu_L 1 ?_ ?_); rotate_left; kernel_rfl
  (with_reducible refine' mu_L 1 ?_ ?_); rotate_left; kernel_rfl
  with_unfolding_all (conv => arg 7; whnf)
  refine mu_anyM filter_super ?_
  (with_reducible refine' mu_L 0 ?_ ?_); rotate_left; kernel_rfl
  (with_reducible refine' mu_U 0 ?_ ?_); rotate_left; kernel_rfl
  (with_reducible refine' mu_L 0 ?_ ?_); rotate_left; kernel_rfl
  (with_reducible refine' mu_U 0 ?_ ?_); rotate_left; kernel_rfl
  (with_reducible refine' mu_L 0 ?_ ?_); rotate_left; kernel_rfl
  (with_reducible refine' mu_L 0 ?_ ?_); rotate_left; kernel_rfl
  (with_reducible refine' mu_L 0 ?_ ?_); rotate_left; kernel_rfl
  (with_reducible refine' mu_L 1 ?_ ?_); rotate_left; kernel_rfl
  (with_reducible refine' mu_L 1 ?_ ?_); rotate_left; kernel_rfl
  (with_reducible refine' mu_F ?_ ?_); rotate_left; kernel_rfl
  (with_reducible refine' mu_A ?_ ?_); rotate_left; kernel_rfl
  (with_reducible refine' mu_L 2 ?_ ?_); rotate_left; kernel_rfl
  (with_reducible refine' mu_F ?_ ?_); rotate_left; kernel_rfl
  (with_reducible refine' mu_L 2 ?_ ?_); rotate_left; kernel_rfl
  (with_reducible refine' mu_U 2 ?_ ?_); rotate_left; kernel_rfl
  (with_reducible refine' mu_L 1 ?_ ?_); rotate_left; kernel_rfl
  (with_reducible refine' mu_U 1 ?_ ?_); rotate_left; kernel_rfl
  (with_reducible refine' mu_L 1 ?_ ?_); rotate_left; kernel_rfl
  (with_reducible refine' mu_U 1 ?_ ?_); rotate_left; kernel_rfl
  (with_reducible refine' mu_L 2 ?_ ?_); rotate_left; kernel_rfl
  (with_reducible refine' mu_F ?_ ?_); rotate_left; kernel_rfl
  (with_reducible refine' mu_L 2 ?_ ?_); rotate_left; kernel_rfl
  (with_reducible refine' mu_U 2 ?_ ?_); rotate_left; kernel_rfl
  (with_reducible refine' mu_L 2 ?_ ?_); rotate_left; kernel_rfl
  (with_reducible refine' mu_L 2 ?_ ?_); rotate_left; kernel_rfl
  (with_reducible refine' mu_L 2 ?_ ?_); rotate_left; kernel_rfl
  (with_reducible refine' mu_L 2 ?_ ?_); rotate_left; kernel_rfl
  (with_reducible refine' mu_L 52 ?_ ?_); rotate_left; kernel_rfl
  (with_reducible refine' mu_L 45 ?_ ?_); rotate_left; kernel_rfl
  (with_reducible refine' mu_L 37 ?_ ?_); rotate_left; kernel_rfl
  (with_reducible refine' mu_L 29 ?_ ?_); rotate_left; kernel_rfl
  (with_reducible refine' mu_L 21 ?_ ?_); rotate_left; kernel_rfl
  (with_reducible refine' mu_L 13 ?_ ?_); rotate_left; kernel_rfl
  (with_reducible refine' mu_L 5 ?_ ?_); rotate_left; kernel_rfl
  (with_reducible refine' mu_L 4 ?_ ?_); rotate_left; kernel_rfl
  (with_reducible refine' mu_L 0 ?_ ?_); rotate_left; kernel_rfl
  (with_reducible refine' mu_C ?_ ?_); rotate_left; kernel_rfl
  (with_reducible refine' mu_G ?_ ?_); rotate_left; kernel_rfl
  (with_reducible refine' mu_L 1 ?_ ?_); rotate_left; kernel_rfl
  (with_reducible refine' mu_C ?_ ?_); rotate_left; kernel_rfl
  (with_reducible refine' mu_G ?_ ?_); rotate_left; kernel_rfl
  (with_reducible refine' mu_A ?_ ?_); rotate_left; kernel_rfl
  (with_reducible refine' mu_R ?_ ?_); rotate_left; kernel_rfl
  (with_reducible refine' mu_L 0 ?_ ?_); rotate_left; kernel_rfl
  (with_reducible refine' mu_L 0 ?_ ?_); rotate_left; kernel_rfl
  (with_reducible refine' mu_C ?_ ?_); rotate_left; kernel_rfl
  (with_reducible refine' mu_L 0 ?_ ?_); rotate_left; kernel_rfl
  (with_reducible refine' mu_G ?_ ?_); rotate_left; kernel_rfl
  refine mu_E (denX (.builtin "super.__init__" ⟨[.ref (tp.as 62), .ref (tp.as 60), .ref (tp.as 60)], []⟩)) ?_ ?_; rotate_left; kernel_rfl
  refine mu_N (fun l => (tp.as 62, ⟨.type "super", none, .fields #[.none, .none, .none], #[]⟩) :: (tp.as 61, nOb l 1) :: (tp.as 60, kCls (tp.as 60) (tp.as 59) (tp.as 2) (tokOf (slAt (nOb l 2) 2)) (tokOf (slAt (nOb l 2) 3))) :: l.drop 3) ?_ ?_; rotate_left; kernel_rfl
  (with_reducible refine' mu_L 2 ?_ ?_); rotate_left; kernel_rfl
  (with_reducible refine' mu_L 2 ?_ ?_); rotate_left; kernel_rfl
  (with_reducible refine' mu_L 2 ?_ ?_); rotate_left; kernel_rfl
  with_unfolding_all (conv => arg 7; whnf)
  with_unfolding_all refine mu_bind2 ?_ ?_
  rotate_left
  with_unfolding_all exact congrArg Sem.pure contains_self
  (with_reducible refine' mu_L 0 ?_ ?_); rotate_left; kernel_rfl
  (with_reducible refine' mu_U 0 ?_ ?_); rotate_left; kernel_rfl
  (with_reducible refine' mu_L 0 ?_ ?_); rotate_left; kernel_rfl
  (with_reducible refine' mu_U 0 ?_ ?_); rotate_left; kernel_rfl
  (with_reducible refine' mu_L 0 ?_ ?_); rotate_left; kernel_rfl
  (with_reducible refine' mu_U 0 ?_ ?_); rotate_left; kernel_rfl
  (with_reducible refine' mu_R ?_ ?_); rotate_left; kernel_rfl
  (with_reducible refine' mu_R ?_ ?_); rotate_left; kernel_rfl
  (with_reducible refine' mu_F ?_ ?_); rotate_left; kernel_rfl
  (with_reducible refine' mu_L 0 ?_ ?_); rotate_left; kernel_rfl
  (with_reducible refine' mu_C ?_ ?_); rotate_left; kernel_rfl
  (with_reducible refine' mu_L 0 ?_ ?_); rotate_left; kernel_rfl
  (with_reducible refine' mu_G ?_ ?_); rotate_left; kernel_rfl
  refine mu_E (denX (.builtin "super.__getattribute__" ⟨[.ref (tp.as 62), .str (Str.ofString "__init_subclass__") (tp.s.toks + 76)], []⟩)) ?_ ?_; rotate_left; kernel_rfl
  refine mu_N (fun l => (tp.as 62, ⟨.type "super", none, .fields #[.ref (tp.as 60), .ref (tp.as 60), .ref (tp.as 60)], #[]⟩) :: (tp.as 61, nOb l 1) :: (tp.as 60, kCls (tp.as 60) (tp.as 59) (tp.as 2) (tokOf (slAt (nOb l 2) 2)) (tokOf (slAt (nOb l 2) 3))) :: l.drop 3) ?_ ?_; rotate_left; kernel_rfl
  (with_reducible refine' mu_L 0 ?_ ?_); rotate_left; kernel_rfl
  (with_reducible refine' mu_L 0 ?_ ?_); rotate_left; kernel_rfl
  (with_reducible refine' mu_L 0 ?_ ?_); rotate_left; kernel_rfl
  (with_reducible refine' mu_K X 2 ?_ ?_); rotate_left; kernel_rfl
  (with_reducible refine' mu_L 2 ?_ ?_); rotate_left; kernel_rfl
  with_unfolding_all (conv => arg 7; whnf)
  refine mu_forIn (super_list rfl rfl) ?_
  (with_reducible refine' mu_C ?_ ?_); rotate_left; kernel_rfl
  (with_reducible refine' mu_G ?_ ?_); rotate_left; kernel_rfl
  with_unfolding_all (conv => arg 7; whnf)
  refine mu_bindV (.builtin "object.__init_subclass__", none, some (.ref (tp.as 60))) ((congrArg (fun y => (_ : Args → Sem _) { pos := [_, y, _] }) ite_same).trans (by kernel_rfl)) ?_
  (with_reducible refine' mu_L 2 ?_ ?_); rotate_left; kernel_rfl
  (with_reducible refine' mu_L 2 ?_ ?_); rotate_left; kernel_rfl
  (with_reducible refine' mu_A ?_ ?_); rotate_left; kernel_rfl
  (with_reducible refine' mu_R ?_ ?_); rotate_left; kernel_rfl
  (with_reducible refine' mu_R ?_ ?_); rotate_left; kernel_rfl
  (with_reducible refine' mu_C ?_ ?_); rotate_left; kernel_rfl
  (with_reducible refine' mu_L 0 ?_ ?_); rotate_left; kernel_rfl
  (with_reducible refine' mu_L 3 ?_ ?_); rotate_left; kernel_rfl
  (with_reducible refine' mu_L 3 ?_ ?_); rotate_left; kernel_rfl
  (with_reducible refine' mu_L 3 ?_ ?_); rotate_left; kernel_rfl
  (with_reducible refine' mu_L 3 ?_ ?_); rotate_left; kernel_rfl
  (with_reducible refine' mu_G ?_ ?_); rotate_left; kernel_rfl
  (with_reducible refine' mu_R ?_ ?_); rotate_left; kernel_rfl
  (with_reducible refine' mu_R ?_ ?_); rotate_left; kernel_rfl
  (with_reducible refine' mu_L 3 ?_ ?_); rotate_left; kernel_rfl
  (with_reducible refine' mu_L 3 ?_ ?_); rotate_left; kernel_rfl
  (with_reducible refine' mu_C ?_ ?_); rotate_left; kernel_rfl
  (with_reducible refine' mu_L 3 ?_ ?_); rotate_left; kernel_rfl
  (with_reducible refine' mu_G ?_ ?_); rotate_left; kernel_rfl
  (with_reducible refine' mu_R ?_ ?_); rotate_left; kernel_rfl
  (with_reducible refine' mu_R ?_ ?_); rotate_left; kernel_rfl
  (with_reducible refine' mu_F ?_ ?_); rotate_left; kernel_rfl
  (with_reducible refine' mu_L 63 ?_ ?_); rotate_left; kernel_rfl
  (with_reducible refine' mu_U 63 ?_ ?_); rotate_left; kernel_rfl
  (with_reducible refine' mu_L 63 ?_ ?_); rotate_left; kernel_rfl
  (with_reducible refine' mu_R ?_ ?_); rotate_left; kernel_rfl
  refine mu_end (.ref (tp.as 60)) (fun h' D n => ?_) (by kernel_rfl)
  refine' tp_fin D (kdef_at tp.w) ret ?_ ?_ ?_ ?_ ?_ (fn_at (mn := .str (Str.ofString "law_nq0040_01") 309) ?_ ?_) (code_q ?_) (fn_at ?_ ?_) (code_q ?_) ?_
  all_goals kernel_rfl
end Mine
end

section
open PySem.W.X
set_option linter.all false
namespace Mine
set_option maxRecDepth 100000
theorem mem_hide {h : Heap} {P : Addr} {o : Obj} (e : h.get? P = some o) : Mem (hideAll h [P]) h [] [(P, o)] := by
  refine ⟨fun b o e _ => of_hideAll _ e, (fun _ hp => nomatch hp), List.nodup_nil, fun p hp => ?_, List.pairwise_singleton _ _⟩
  rw [List.mem_singleton.mp hp]
  exact ⟨e, hideAll_none _ (List.mem_singleton.mpr rfl)⟩
theorem ctk_spec {w : World} {A : Around} {E : Value → Shared → Prop} {s : Shared} {base : Heap} {mg mb : Str → Option Value} {mean : ExcName → Option Value} {Q : Value → Shared → Prop} {outer : List Env} (hh : A.handled = none) (X : (Mine.KC w.params).In s.heap) (T : Top EMP LS mean mg mb s.heap) (h60 : s.heap.get? 60 = some (tabObj #[]))
   (hd : A.depth + 10 < recursionLimit)
   (ret : ∀ (bd : List Stmt) (sc : Scope) (mn : Value) (cm aC cC : Addr) (ex : List (Addr × Obj)) (tk : Tok) (h' : Heap), KDef w bd sc → (∀ b o, s.heap.get? b = some o → b ≠ 60 → h'.get? b = some o) → h'.get? 60 = some (tabObj #[rawInt 28, rawInt 4, .ref cC]) → (∀ p ∈ ex, h'.get? p.1 = some p.2 ∧ s.heap.get? p.1 = none) →
     (∀ h : Heap, (∀ p ∈ ex, h.get? p.1 = some p.2) → KAt w bd mn cm h aC ∧ ∃ oc, h.get? cm = some oc ∧ oc.data = .cell (some (.ref 171))) → Q (.ref aC) { s with heap := h', toks := tk }) :
   wpAny (model PROG w) A (call (.ref 65) [.ref 171]) Q E s := by
  have T1 : Top EMP LS mean mg mb (hideAll s.heap [60]) := top_hide T fun b hb o ho => by
    rw [List.mem_singleton.mp hb, h60] at ho
    cases ho
    exact ⟨(fun es n q => by cases q), (by intro q; cases q)⟩
  have z := hideAll_size [60] s.heap
  refine tp_good ctk_tp ⟨w, A, E, Q, s, hideAll s.heap [60], (hideAll s.heap [60]).objs.size - 12⟩ (Nat.sub_add_cancel (Nat.le_trans (Nat.le_of_ble_eq_true rfl) (Nat.le_trans (Nat.le_of_lt (Heap.lt_size h60)) (Nat.le_of_eq z.symm)))).symm (mem_hide h60) z.symm hh hd T1.nolimit
    (kin_hide X (fun b hb => by rw [List.mem_singleton.mp hb]; rfl) (fun a o e => KC_off e)) ?_
  intro bd sc mn cm aC cC ex tk h' hbd hk h6 hex hka
  refine ret bd sc mn cm aC cC ex tk h' hbd (fun b o e hb => hk b o (hideAll_get _ e (by simpa using hb))) h6 (fun p hp => ⟨(hex p hp).1, ?_⟩) hka
  have y := (hex p hp).2
  cases q : s.heap.get? p.1 with
  | none => rfl
  | some o => have y1 := y.1; rw [hideAll_get _ q (by simpa using y.2)] at y1; cases y1
end Mine
end

section
open PySem.W.X
set_option linter.all false
set_option genInjectivity false
set_option genSizeOf false
namespace Mine
set_option maxRecDepth 100000
set_option maxHeartbeats 0
noncomputable def fnSt (w : World) (i : Nat) : Stmt := ((bdK (kOb (KC w.params) 65))[i]?).getD default
noncomputable def stP : Stmt → Arguments | .FunctionDef _ p _ _ _ _ _ _ _ _ => p | _ => default
noncomputable def stB : Stmt → List Stmt | .FunctionDef _ _ b _ _ _ _ _ _ _ => b | _ => []
noncomputable def stS : Stmt → Scope | .FunctionDef _ _ _ _ _ _ s _ _ _ => s | _ => default
structure IP where
  w : World
  A : Around
  E : Value → Shared → Prop
  Q : Value → Shared → Prop
  s : Shared
  as : Nat → Addr
  k : KW
  aC : Addr
  f : Nat → Value
  od : Option Addr
  tq : Tok
  rest : List Value
  sl : Array (Option Value)
  y : Str
  ty : Tok
structure InstIn (p : IP) : Prop where
  hM : p.s.heap.get? (p.k.ad 1) = some (kMem p.aC (p.k.u 20))
  hC : p.s.heap.get? p.aC = some (kCls p.aC (p.k.ad 0) (p.k.ad 2) (p.k.u 21) (p.k.u 22))
  hN : p.s.heap.get? (p.k.ad 0) = some p.k.ns
  h1 : p.s.heap.get? (p.k.ad 5) = some (fnMade (Str.ofString "__init__") (Str.ofString "cmp_to_key.<locals>.K.__init__") (stP (fnSt p.w 2)) (stB (fnSt p.w 2)) (stS (fnSt p.w 2)) [] (p.f 0) (p.f 1) (p.k.ad 11) (p.f 2))
  hc1 : p.s.heap.get? (p.k.ad 11) = some ⟨p.f 3, p.od, .fields ⟨p.f 4 :: .str (Str.ofString "cmp_to_key.<locals>.K.__init__") p.tq :: p.rest⟩, p.sl⟩
noncomputable def IP.Good (p : IP) : Prop := (∀ i, p.as i = p.s.heap.objs.size + i) → InstIn p → p.A.handled = none → p.A.depth + 10 < recursionLimit → p.s.heap.NoLimit → (Mine.KC p.w.params).In p.s.heap →
   (∀ (aI aD : Addr) (tk : Tok) (h' : Heap), Kp p.s.heap h' → h'.get? aI = some { cls := .ref p.aC, dict := some aD, slots := #[some (.str p.y p.ty)] } → p.s.heap.get? aI = none → h'.get? aD = some { cls := .type "dict", data := .dict #[] } → p.s.heap.get? aD = none → aI ≠ aD → p.Q (.ref aI) { p.s with heap := h', toks := tk }) →
   wpAny (model PROG p.w) p.A (call (.ref p.aC) [.str p.y p.ty]) p.Q p.E p.s
theorem ip_ne : Nonempty IP := ⟨⟨aWorld 0, {}, fun _ _ => True, fun _ _ => True, {}, id, ⟨id, fun _ => 0, id, fun _ => dfO⟩, 0, fun _ => .none, none, 0, [], #[], Str.empty, 0⟩⟩
noncomputable def ip : IP := @Classical.epsilon IP ip_ne fun p => ¬ p.Good
theorem ip_good (h : ip.Good) (p : IP) : p.Good := Classical.byContradiction fun n => (Classical.epsilon_spec (p := fun p : IP => ¬ p.Good) ⟨p, n⟩) h
theorem ncont {i : DecidableEq Value} {a : Value} {l : List Value} : ¬ ((!(@List.contains Value (@instBEqOfDecidableEq Value i) (a :: l) a)) = true) := by
  rw [contains_self]
  exact Bool.false_ne_true
theorem ip_fin {N : List (Addr × Obj)} {h' : Heap} {tk : Tok} (D : Mem ip.s.heap h' [] N) (n : ∀ i j, Nat.beq i j = false → ip.as i ≠ ip.as j)
   (ret : ∀ (aI aD : Addr) (tk : Tok) (h' : Heap), Kp ip.s.heap h' → h'.get? aI = some { cls := .ref ip.aC, dict := some aD, slots := #[some (.str ip.y ip.ty)] } → ip.s.heap.get? aI = none → h'.get? aD = some { cls := .type "dict", data := .dict #[] } → ip.s.heap.get? aD = none → aI ≠ aD → ip.Q (.ref aI) { ip.s with heap := h', toks := tk })
   (e : (N[1]?, N[2]?) = (some (ip.as 1, { cls := .ref ip.aC, dict := some (ip.as 0), slots := #[some (.str ip.y ip.ty)] }), some (ip.as 0, { cls := .type "dict", data := .dict #[] }))) : ip.Q (.ref (ip.as 1)) { ip.s with heap := h', toks := tk } := by
  have e1 := congrArg Prod.fst e
  have e2 := congrArg Prod.snd e
  have z1 := D.nw _ (List.mem_of_getElem? e1)
  have z2 := D.nw _ (List.mem_of_getElem? e2)
  exact ret _ _ tk h' (fun b o e => D.old b o e (by simp [away])) z1.1 z1.2 z2.1 z2.2 (n 1 0 rfl)
theorem kdef_bd {w : World} {bd : List Stmt} {sc : Scope} (H : KDef w bd sc) : bdK (kOb (KC w.params) 65) = bd := by
  obtain ⟨oc, od, name, qual, params, scope, dV, kV, doc, pm, cdv, ct, an, osl, bases, kws, bind, sts, pos, st, hlk⟩ := H
  have e : ∀ o, (KC w.params).lookup 65 = some o → kOb (KC w.params) 65 = o := fun o h => by unfold kOb; rw [h]; rfl
  rw [e _ hlk]
  rfl
theorem inst_ip : ip.Good := by
  intro ha I hh hd hl X ret
  refine mu_go' ha ?_
  (with_reducible refine' mu_C ?_ ?_); rotate_left; kernel_rfl
  (with_reducible refine' mu_O I.hC ?_ ?_); rotate_left; kernel_rfl
  (with_reducible refine' mu_O I.hC ?_ ?_); rotate_left; kernel_rfl
  (with_reducible refine' mu_G ?_ ?_); rotate_left; kernel_rfl
  (with_reducible refine' mu_O I.hC ?_ ?_); rotate_left; kernel_rfl
  (with_reducible refine' mu_G ?_ ?_); rotate_left; kernel_rfl
  (with_reducible refine' mu_O I.hC ?_ ?_); rotate_left; kernel_rfl
  (with_reducible refine' mu_O I.hC ?_ ?_); rotate_left; kernel_rfl
  (with_reducible refine' mu_O I.hC ?_ ?_); rotate_left; kernel_rfl
  (with_reducible refine' mu_C ?_ ?_); rotate_left; kernel_rfl
  (with_reducible refine' mu_O I.hC ?_ ?_); rotate_left; kernel_rfl
  (with_reducible refine' mu_O I.hC ?_ ?_); rotate_left; kernel_rfl
  (with_reducible refine' mu_O I.hC ?_ ?_); rotate_left; kernel_rfl
  (with_reducible refine' mu_O I.hC ?_ ?_); rotate_left; kernel_rfl
  (with_reducible refine' mu_O I.hC ?_ ?_); rotate_left; kernel_rfl
  (with_reducible refine' mu_O I.hC ?_ ?_); rotate_left; kernel_rfl
  (with_reducible refine' mu_O I.hC ?_ ?_); rotate_left; kernel_rfl
  (with_reducible refine' mu_G ?_ ?_); rotate_left; kernel_rfl
  (with_reducible refine' mu_O I.hC ?_ ?_); rotate_left; kernel_rfl
  (with_reducible refine' mu_O I.hC ?_ ?_); rotate_left; kernel_rfl
  (with_reducible refine' mu_O I.hC ?_ ?_); rotate_left; kernel_rfl
  (with_reducible refine' mu_O I.hC ?_ ?_); rotate_left; kernel_rfl
  (with_reducible refine' mu_O I.hC ?_ ?_); rotate_left; kernel_rfl
  (with_reducible refine' mu_O I.hC ?_ ?_); rotate_left; kernel_rfl
  (with_reducible refine' mu_O I.hC ?_ ?_); rotate_left; kernel_rfl
  (with_reducible refine' mu_O I.hC ?_ ?_); rotate_left; kernel_rfl
  (with_reducible refine' mu_O I.hC ?_ ?_); rotate_left; kernel_rfl
  (with_reducible refine' mu_O I.hC ?_ ?_); rotate_left; kernel_rfl
  (with_reducible refine' mu_O I.hN ?_ ?_); rotate_left; kernel_rfl
  (with_reducible refine' mu_O I.hC ?_ ?_); rotate_left; kernel_rfl
  (with_reducible refine' mu_A ?_ ?_); rotate_left; kernel_rfl
  (with_reducible refine' mu_A ?_ ?_); rotate_left; kernel_rfl
  (with_reducible refine' mu_O I.hC ?_ ?_); rotate_left; kernel_rfl
  (with_reducible refine' mu_R ?_ ?_); rotate_left; kernel_rfl
  (with_reducible refine' mu_L 0 ?_ ?_); rotate_left; kernel_rfl
  (with_reducible refine' mu_O I.hC ?_ ?_); rotate_left; kernel_rfl
  with_unfolding_all (conv => arg 7; whnf)
  with_unfolding_all refine mu_decF ncont ?_
  (with_reducible refine' mu_L 0 ?_ ?_); rotate_left; kernel_rfl
  (with_reducible refine' mu_O I.hC ?_ ?_); rotate_left; kernel_rfl
  (with_reducible refine' mu_O I.hC ?_ ?_); rotate_left; kernel_rfl
  (with_reducible refine' mu_O I.hN ?_ ?_); rotate_left; kernel_rfl
  (with_reducible refine' mu_O I.h1 ?_ ?_); rotate_left; kernel_rfl
  (with_reducible refine' mu_C ?_ ?_); rotate_left; kernel_rfl
  (with_reducible refine' mu_O I.h1 ?_ ?_); rotate_left; kernel_rfl
  (with_reducible refine' mu_O I.hc1 ?_ ?_); rotate_left; kernel_rfl
  (with_reducible refine' mu_A ?_ ?_); rotate_left; kernel_rfl
  (with_reducible refine' mu_F ?_ ?_); rotate_left; kernel_rfl
  (with_reducible refine' mu_L 0 ?_ ?_); rotate_left; kernel_rfl
  (with_reducible refine' mu_U 0 ?_ ?_); rotate_left; kernel_rfl
  (with_reducible refine' mu_F ?_ ?_); rotate_left; kernel_rfl
  (with_reducible refine' mu_L 0 ?_ ?_); rotate_left; kernel_rfl
  (with_reducible refine' mu_U 0 ?_ ?_); rotate_left; kernel_rfl
  with_unfolding_all (conv => arg 7; whnf)
  refine mu_enter 1 hl hd ?_ (by with_unfolding_all rfl) (by kernel_rfl)
  (with_reducible refine' mu_G ?_ ?_); rotate_left; kernel_rfl
  (with_reducible refine' mu_L 0 ?_ ?_); rotate_left; kernel_rfl
  (with_reducible refine' mu_L 0 ?_ ?_); rotate_left; kernel_rfl
  (with_reducible refine' mu_F ?_ ?_); rotate_left; kernel_rfl
  (with_reducible refine' mu_L 1 ?_ ?_); rotate_left; kernel_rfl
  (with_reducible refine' mu_O I.hC ?_ ?_); rotate_left; kernel_rfl
  (with_reducible refine' mu_O I.hC ?_ ?_); rotate_left; kernel_rfl
  (with_reducible refine' mu_O I.hN ?_ ?_); rotate_left; kernel_rfl
  (with_reducible refine' mu_C ?_ ?_); rotate_left; kernel_rfl
  (with_reducible refine' mu_L 1 ?_ ?_); rotate_left; kernel_rfl
  (with_reducible refine' mu_O I.hC ?_ ?_); rotate_left; kernel_rfl
  (with_reducible refine' mu_G ?_ ?_); rotate_left; kernel_rfl
  (with_reducible refine' mu_L 1 ?_ ?_); rotate_left; kernel_rfl
  (with_reducible refine' mu_O I.hC ?_ ?_); rotate_left; kernel_rfl
  (with_reducible refine' mu_L 1 ?_ ?_); rotate_left; kernel_rfl
  (with_reducible refine' mu_O I.hC ?_ ?_); rotate_left; kernel_rfl
  (with_reducible refine' mu_O I.hC ?_ ?_); rotate_left; kernel_rfl
  (with_reducible refine' mu_O I.hN ?_ ?_); rotate_left; kernel_rfl
  (with_reducible refine' mu_O I.hM ?_ ?_); rotate_left; kernel_rfl
  (with_reducible refine' mu_O I.hM ?_ ?_); rotate_left; kernel_rfl
  (with_reducible refine' mu_C ?_ ?_); rotate_left; kernel_rfl
  (with_reducible refine' mu_O I.hM ?_ ?_); rotate_left; kernel_rfl
  (with_reducible refine' mu_G ?_ ?_); rotate_left; kernel_rfl
  (with_reducible refine' mu_O I.hM ?_ ?_); rotate_left; kernel_rfl
  (with_reducible refine' mu_O I.hM ?_ ?_); rotate_left; kernel_rfl
  (with_reducible refine' mu_L 1 ?_ ?_); rotate_left; kernel_rfl
  (with_reducible refine' mu_O I.hC ?_ ?_); rotate_left; kernel_rfl
  with_unfolding_all (conv => arg 7; whnf)
  with_unfolding_all refine mu_bind2 ?_ ?_
  rotate_left
  with_unfolding_all exact congrArg Sem.pure contains_self
  (with_reducible refine' mu_O I.hM ?_ ?_); rotate_left; kernel_rfl
  (with_reducible refine' mu_O I.hM ?_ ?_); rotate_left; kernel_rfl
  (with_reducible refine' mu_G ?_ ?_); rotate_left; kernel_rfl
  (with_reducible refine' mu_O I.hM ?_ ?_); rotate_left; kernel_rfl
  (with_reducible refine' mu_O I.hM ?_ ?_); rotate_left; kernel_rfl
  (with_reducible refine' mu_L 1 ?_ ?_); rotate_left; kernel_rfl
  (with_reducible refine' mu_O I.hC ?_ ?_); rotate_left; kernel_rfl
  (with_reducible refine' mu_U 1 ?_ ?_); rotate_left; kernel_rfl
  (with_reducible refine' mu_R ?_ ?_); rotate_left; kernel_rfl
  (with_reducible refine' mu_R ?_ ?_); rotate_left; kernel_rfl
  (with_reducible refine' mu_R ?_ ?_); rotate_left; kernel_rfl
  (with_reducible refine' mu_R ?_ ?_); rotate_left; kernel_rfl
  refine mu_end (.ref (ip.as 1)) (fun h' D n => ?_) (by kernel_rfl)
  refine ip_fin D n ret ?_
  kernel_rfl
theorem inst_spec {w : World} {A : Around} {E : Value → Shared → Prop} {s : Shared} {base : Heap} {mg mb : Str → Option Value} {mean : ExcName → Option Value} {Q : Value → Shared → Prop} {outer : List Env} {bd : List Stmt} {sc : Scope} {mn : Value} {cm aC : Addr} {y : Str} {ty : Tok}
   (hdef : KDef w bd sc) (hh : A.handled = none) (X : (Mine.KC w.params).In s.heap) (T : Top EMP LS mean mg mb s.heap) (H : KAt w bd mn cm s.heap aC) (hd : A.depth + 10 < recursionLimit)
   (ret : ∀ (aI aD : Addr) (tk : Tok) (h' : Heap), Kp s.heap h' → h'.get? aI = some { cls := .ref aC, dict := some aD, slots := #[some (.str y ty)] } → s.heap.get? aI = none → h'.get? aD = some { cls := .type "dict", data := .dict #[] } → s.heap.get? aD = none → aI ≠ aD → Q (.ref aI) { s with heap := h', toks := tk }) :
   wpAny (model PROG w) A (call (.ref aC) [.str y ty]) Q E s := by
  have e := kdef_bd hdef
  subst e
  obtain ⟨k, I⟩ := H
  obtain ⟨p1, b1, s1, ps1, dc1, ctv1, e1, hq⟩ := I.F1
  have e2 : fnSt w 2 = .FunctionDef (Str.ofString "__init__") p1 b1 [] none [] s1 none (Str.ofString "__init__") ps1 := by unfold fnSt; rw [e1]; rfl
  have Q1 := I.Q1
  have hc1 := I.hc1
  generalize k.q 1 = o1 at hc1 Q1
  obtain ⟨cl, od, dd, sl⟩ := o1
  obtain ⟨vs, tq, hv1, hv2⟩ := Q1
  have hv1 : dd = .fields vs := hv1
  obtain ⟨l⟩ := vs
  obtain ⟨a0, rest, rfl⟩ : ∃ a0 rest, l = a0 :: .str (Str.ofString "cmp_to_key.<locals>.K.__init__") tq :: rest := by
    match l, hv2 with
    | _ :: b :: r, hv2 =>
      have : b = _ := Option.some.inj hv2
      exact ⟨_, r, by rw [this]⟩
  subst hv1
  exact ip_good inst_ip ⟨w, A, E, Q, s, fun i => s.heap.objs.size + i, k, aC, fun i => [dc1, mn, ctv1, cl, a0].getD i .none, od, tq, rest, sl, y, ty⟩ (fun _ => rfl)
    ⟨I.hM, I.hC, I.hN, (by rw [e2]; exact I.h1.trans (congrArg some hq)), hc1⟩ hh hd T.nolimit X ret
end Mine
end

section
open PySem.W.X
set_option linter.all false
set_option genInjectivity false
set_option genSizeOf false
namespace Mine
set_option maxRecDepth 100000
set_option maxHeartbeats 0
structure GP (α : Type) where
  w : World
  A : Around
  E : Value → Shared → Prop
  Q : α → Shared → Prop
  s : Shared
  as : Nat → Addr
  k : KW
  aC : Addr
  aI : Addr
  aD : Addr
  q2 : Data
  y : Str
  ty : Tok
structure GetIn {α : Type} (p : GP α) : Prop where
  hM : p.s.heap.get? (p.k.ad 1) = some (kMem p.aC (p.k.u 20))
  hC : p.s.heap.get? p.aC = some (kCls p.aC (p.k.ad 0) (p.k.ad 2) (p.k.u 21) (p.k.u 22))
  hN : p.s.heap.get? (p.k.ad 0) = some p.k.ns
  hI : p.s.heap.get? p.aI = some { cls := .ref p.aC, dict := some p.aD, slots := #[some (.str p.y p.ty)] }
  hD : p.s.heap.get? p.aD = some { cls := .type "dict", data := .dict #[] }
  h2 : p.s.heap.get? (p.k.ad 6) = some { cls := .type "function", data := p.q2 }
noncomputable def GP.Good {α : Type} (p : GP α) (T : Sem α) (v : α) : Prop := (∀ i, p.as i = p.s.heap.objs.size + i) → GetIn p → p.A.handled = none → (Mine.KC p.w.params).In p.s.heap →
   (∀ (tk : Tok) (h' : Heap), Kp p.s.heap h' → p.Q v { p.s with heap := h', toks := tk }) → wpAny (model PROG p.w) p.A T p.Q p.E p.s
theorem gp_ne (α : Type) : Nonempty (GP α) := ⟨⟨aWorld 0, {}, fun _ _ => True, fun _ _ => True, {}, id, ⟨id, fun _ => 0, id, fun _ => dfO⟩, 0, 0, 0, .plain, Str.empty, 0⟩⟩
noncomputable def gX {α : Type} (T : GP α → Sem α) (v : GP α → α) : GP α := @Classical.epsilon (GP α) (gp_ne α) fun p => ¬ p.Good (T p) (v p)
theorem gX_good {α : Type} {T : GP α → Sem α} {v : GP α → α} (h : (gX T v).Good (T (gX T v)) (v (gX T v))) (p : GP α) : p.Good (T p) (v p) := Classical.byContradiction fun n => (Classical.epsilon_spec (p := fun p : GP α => ¬ p.Good (T p) (v p)) ⟨p, n⟩) h
noncomputable def TA (p : GP (Value)) : Sem (Value) := getAttr (.ref p.aI) (Str.ofString "obj") true
noncomputable def wA (p : GP (Value)) : Value := .str p.y p.ty
noncomputable def gA : GP (Value) := gX TA wA
theorem gA_ok : gA.Good (TA gA) (wA gA) := by
  intro ha I hh X ret
  refine mu_go' ha ?_
  (with_reducible refine' mu_F ?_ ?_); rotate_left; kernel_rfl
  (with_reducible refine' mu_O I.hI ?_ ?_); rotate_left; kernel_rfl
  (with_reducible refine' mu_O I.hC ?_ ?_); rotate_left; kernel_rfl
  (with_reducible refine' mu_O I.hC ?_ ?_); rotate_left; kernel_rfl
  (with_reducible refine' mu_O I.hN ?_ ?_); rotate_left; kernel_rfl
  (with_reducible refine' mu_C ?_ ?_); rotate_left; kernel_rfl
  (with_reducible refine' mu_O I.hI ?_ ?_); rotate_left; kernel_rfl
  (with_reducible refine' mu_O I.hC ?_ ?_); rotate_left; kernel_rfl
  (with_reducible refine' mu_O I.hC ?_ ?_); rotate_left; kernel_rfl
  (with_reducible refine' mu_O I.hN ?_ ?_); rotate_left; kernel_rfl
  (with_reducible refine' mu_O I.hM ?_ ?_); rotate_left; kernel_rfl
  (with_reducible refine' mu_O I.hM ?_ ?_); rotate_left; kernel_rfl
  (with_reducible refine' mu_O I.hC ?_ ?_); rotate_left; kernel_rfl
  (with_reducible refine' mu_O I.hC ?_ ?_); rotate_left; kernel_rfl
  (with_reducible refine' mu_O I.hN ?_ ?_); rotate_left; kernel_rfl
  (with_reducible refine' mu_C ?_ ?_); rotate_left; kernel_rfl
  (with_reducible refine' mu_O I.hM ?_ ?_); rotate_left; kernel_rfl
  (with_reducible refine' mu_G ?_ ?_); rotate_left; kernel_rfl
  (with_reducible refine' mu_O I.hM ?_ ?_); rotate_left; kernel_rfl
  (with_reducible refine' mu_O I.hM ?_ ?_); rotate_left; kernel_rfl
  (with_reducible refine' mu_O I.hI ?_ ?_); rotate_left; kernel_rfl
  (with_reducible refine' mu_O I.hC ?_ ?_); rotate_left; kernel_rfl
  with_unfolding_all (conv => arg 7; whnf)
  with_unfolding_all refine mu_bind2 ?_ ?_
  rotate_left
  with_unfolding_all exact congrArg Sem.pure contains_self
  (with_reducible refine' mu_O I.hM ?_ ?_); rotate_left; kernel_rfl
  (with_reducible refine' mu_O I.hM ?_ ?_); rotate_left; kernel_rfl
  (with_reducible refine' mu_G ?_ ?_); rotate_left; kernel_rfl
  (with_reducible refine' mu_O I.hM ?_ ?_); rotate_left; kernel_rfl
  (with_reducible refine' mu_O I.hM ?_ ?_); rotate_left; kernel_rfl
  (with_reducible refine' mu_O I.hI ?_ ?_); rotate_left; kernel_rfl
  (with_reducible refine' mu_O I.hC ?_ ?_); rotate_left; kernel_rfl
  (with_reducible refine' mu_O I.hI ?_ ?_); rotate_left; kernel_rfl
  (with_reducible refine' mu_R ?_ ?_); rotate_left; kernel_rfl
  (with_reducible refine' mu_R ?_ ?_); rotate_left; kernel_rfl
  refine mu_end (wA gA) (fun h' D n => ret _ h' fun b o e => D.old b o e (by simp [away])) (by kernel_rfl)
noncomputable def TS (p : GP (Option Value)) : Sem (Option Value) := specialOf (.ref p.aI) (Str.ofString "__lt__")
noncomputable def wS (p : GP (Option Value)) : Option Value := some (.ref (p.k.ad 6))
noncomputable def gS : GP (Option Value) := gX TS wS
theorem gS_ok : gS.Good (TS gS) (wS gS) := by
  intro ha I hh X ret
  refine mu_go' ha ?_
  (with_reducible refine' mu_O I.hI ?_ ?_); rotate_left; kernel_rfl
  (with_reducible refine' mu_O I.hC ?_ ?_); rotate_left; kernel_rfl
  (with_reducible refine' mu_O I.hC ?_ ?_); rotate_left; kernel_rfl
  (with_reducible refine' mu_O I.hN ?_ ?_); rotate_left; kernel_rfl
  refine mu_end (wS gS) (fun h' D n => ret _ h' fun b o e => D.old b o e (by simp [away])) (by kernel_rfl)
noncomputable def TB (p : GP (Value × List Value)) : Sem (Value × List Value) := bindSpecial (.ref (p.k.ad 6)) (.ref p.aI)
noncomputable def wB (p : GP (Value × List Value)) : Value × List Value := (.ref (p.k.ad 6), [.ref p.aI])
noncomputable def gB : GP (Value × List Value) := gX TB wB
theorem gB_ok : gB.Good (TB gB) (wB gB) := by
  intro ha I hh X ret
  refine mu_go' ha ?_
  (with_reducible refine' mu_O I.h2 ?_ ?_); rotate_left; kernel_rfl
  refine mu_end (wB gB) (fun h' D n => ret _ h' fun b o e => D.old b o e (by simp [away])) (by kernel_rfl)
theorem mono_if_t {α : Type} {M : Model} {A : Around} {Q : α → Shared → Prop} {E : Value → Shared → Prop} {s : Shared} {c : Prop} [Decidable c] {x y : Sem α} (hc : c) (h : wpAny M A x Q E s) : wpAny M A (if c then x else y) Q E s := by rw [if_pos hc]; exact h
theorem mono_if_f {α : Type} {M : Model} {A : Around} {Q : α → Shared → Prop} {E : Value → Shared → Prop} {s : Shared} {c : Prop} [Decidable c] {x y : Sem α} (hc : ¬ c) (h : wpAny M A y Q E s) : wpAny M A (if c then x else y) Q E s := by rw [if_neg hc]; exact h
theorem attr_spec {w : World} {A : Around} {E : Value → Shared → Prop} {s : Shared} {base : Heap} {mg mb : Str → Option Value} {mean : ExcName → Option Value} {Q : Value → Shared → Prop} {outer : List Env} {bd : List Stmt} {mn : Value} {cm aC aI aD : Addr} {y : Str} {ty : Tok} (hh : A.handled = none) (X : (Mine.KC w.params).In s.heap) (H : KAt w bd mn cm s.heap aC) (hI : s.heap.get? aI = some { cls := .ref aC, dict := some aD, slots := #[some (.str y ty)] }) (hD : s.heap.get? aD = some { cls := .type "dict", data := .dict #[] })
   (ret : ∀ t' tk h', Kp s.heap h' → Q (.str y t') { s with heap := h', toks := tk }) :
   wpAny (model PROG w) A (getAttr (.ref aI) (Str.ofString "obj") true) Q E s := by
  obtain ⟨k, I⟩ := H
  obtain ⟨p2, b2, s2, ps2, dc2, ctv2, e2, hq⟩ := I.F2
  have h2 := I.h2.trans (congrArg some hq)
  exact gX_good gA_ok ⟨w, A, E, Q, s, fun i => s.heap.objs.size + i, k, aC, aI, aD, _, y, ty⟩ (fun _ => rfl) ⟨I.hM, I.hC, I.hN, hI, hD, h2⟩ hh X fun tk' h' kk => ret _ tk' h' kk
theorem lt_find {w : World} {A : Around} {E : Value → Shared → Prop} {s : Shared} {base : Heap} {mg mb : Str → Option Value} {mean : ExcName → Option Value} {Q : Value → Shared → Prop} {outer : List Env} {bd : List Stmt} {mn : Value} {cm aC aI aD : Addr} {y : Str} {ty : Tok} {b : Value} {R : Bool → Shared → Prop} (hh : A.handled = none) (X : (Mine.KC w.params).In s.heap) (H : KAt w bd mn cm s.heap aC) (hI : s.heap.get? aI = some { cls := .ref aC, dict := some aD, slots := #[some (.str y ty)] }) (hD : s.heap.get? aD = some { cls := .type "dict", data := .dict #[] })
   (hu : A.units < cLine)
   (ret : ∀ (f2 c2 : Addr) (q2 o2 : Obj) (tk : Tok) (h' : Heap), Kp s.heap h' → h'.get? f2 = some q2 → FnAt bd 3 (Str.ofString "__lt__") (Str.ofString "cmp_to_key.<locals>.K.__lt__") [(Str.ofString "mycmp", cm)] mn q2 c2 → h'.get? c2 = some o2 → CodeQ o2 (Str.ofString "cmp_to_key.<locals>.K.__lt__") →
     wpAny (model PROG w) A (call (.ref f2) [.ref aI, b]) (PyProof.Rows.BoolBack R) E { s with heap := h', toks := tk }) :
   wpAny (model PROG w) A (keyLt' oneType' (.ref aI) b) R E s := by
  obtain ⟨k, I⟩ := H
  obtain ⟨p2, b2, s2, ps2, dc2, ctv2, e2, hq⟩ := I.F2
  have h2 := I.h2.trans (congrArg some hq)
  rw [keyLt'_oneType, oneLt'_eq]
  simp only [if_true]
  refine wpAny_bind (wpAny_cRoomFor hu (wpAny_bind ?_))
  simp only [callSpecialIfBound?, bindSpecialIfBound?]
  refine wpAny_holding (wpAny_bind (wpAny_bind ?_))
  have hs : wpAny (model PROG w) A (specialOf (.ref aI) (Str.ofString "__lt__")) (fun v s' => v = some (.ref (k.ad 6)) ∧ ∃ tk h, Kp s.heap h ∧ s' = { s with heap := h, toks := tk }) (fun _ _ => False) s :=
    gX_good gS_ok ⟨w, A, _, _, s, fun i => s.heap.objs.size + i, k, aC, aI, aD, _, y, ty⟩ (fun _ => rfl) ⟨I.hM, I.hC, I.hN, hI, hD, h2⟩ hh X fun tk3 h3 k3 => ⟨rfl, tk3, h3, k3, rfl⟩
  refine wpAny_mono hs ?_ fun _ _ h => h.elim
  rintro _ _ ⟨rfl, tk3, h3, k3, rfl⟩
  have back : wpAny (model PROG w) A (bindSpecial (.ref (k.ad 6)) (.ref aI)) (fun v s' => v = (.ref (k.ad 6), [.ref aI]) ∧ ∃ tk h, Kp s.heap h ∧ s' = { s with heap := h, toks := tk }) (fun _ _ => False) { s with heap := h3, toks := tk3 } :=
    gX_good gB_ok ⟨w, A, _, _, { s with heap := h3, toks := tk3 }, fun i => h3.objs.size + i, k, aC, aI, aD, _, y, ty⟩ (fun _ => rfl) ⟨k3 _ _ I.hM, k3 _ _ I.hC, k3 _ _ I.hN, k3 _ _ hI, k3 _ _ hD, k3 _ _ h2⟩ hh (X.keeps k3) fun tk h kk => ⟨rfl, tk, h, k3.trans kk, rfl⟩
  have fin : ∀ tk h, Kp s.heap h → wpAny (model PROG w) A (call (.ref (k.ad 6)) [.ref aI, b]) (PyProof.Rows.BoolBack R) E { s with heap := h, toks := tk } := fun tk h kk => ret (k.ad 6) (k.ad 12) (k.q 2) (k.q 3) tk h kk (kk _ _ I.h2) I.F2 (kk _ _ I.hc2) I.Q2
  refine wpAny_bind (wpAny_askSetting ?_)
  by_cases hb : w.params.followText "special-get-raises" = true
  · refine mono_if_t hb (wpAny_bind (wpAny_mono back ?_ fun _ _ h => h.elim))
    rintro _ _ ⟨rfl, tk4, h4, k4, rfl⟩
    refine wpAny_pure (wpAny_bind (wpAny_mono (fin _ _ k4) (fun v s' hv => ?_) fun _ _ e => e))
    obtain ⟨b2, rfl, hv⟩ := hv
    exact wpAny_pure (wpAny_truthy_bool hv)
  · refine mono_if_f hb (wpAny_tryCatch (wpAny_bind (wpAny_mono back ?_ fun _ _ h => h.elim)))
    rintro _ _ ⟨rfl, tk4, h4, k4, rfl⟩
    refine wpAny_pure (wpAny_bind (wpAny_mono (fin _ _ k4) (fun v s' hv => ?_) fun _ _ e => e))
    obtain ⟨b2, rfl, hv⟩ := hv
    exact wpAny_pure (wpAny_truthy_bool hv)
end Mine
end

section
set_option linter.all false
namespace Mine
set_option maxRecDepth 100000
set_option maxHeartbeats 1000000
theorem enterF {prog : Program} {w : World} {A : Around} {E : Value → Shared → Prop} {s : Shared} {Q : Value → Shared → Prop} {name qual : Str} {params : Arguments} {body : List Stmt} {scope : Scope} {cl : List (Str × Addr)} {doc pm ctv : Value} {c' f : Addr} {args : List Value} {binds : List (Str × Value)} (hnl : s.heap.NoLimit)
    (ho : s.heap.get? f = some (fnMade name qual params body scope cl doc pm c' ctv)) (hcd : s.heap.CodeRec (.ref c') qual) (hroom : A.depth < recursionLimit)
    (hbind : BindsTo s (fnX name qual params body scope cl .none .none doc pm none (.ref c') ctv) ⟨args, []⟩ binds) (hloc : ∀ y ∈ binds, scope.names.lookup y.1 = some .local)
    (h : ∀ L' h₁, Fr s.heap L' h₁ (fun y => binds.reverse.lookup y) → News s.heap L' h₁ [] →
      wpAny (model prog w) (A.deeper (envX qual scope L' f (.ref c') cl)) (execs body (envX qual scope L' f (.ref c') cl))
        (fun fl s' => Q (match fl with | .ret v => v | _ => .none) s')
        (fun e s' => wpAny (model prog w) (A.deeper (envX qual scope L' f (.ref c') cl)) (leaving (envX qual scope L' f (.ref c') cl) e) (fun _ s'' => E e s'') (fun e' s'' => E e' s'') s')
        { s with heap := h₁, toks := s.toks + binds.length })
    (hcell : ∀ x ∈ scope.names, x.2 ≠ .cell) (hco : scope.isCoroutine = false) (hgen : scope.isGenerator = false) (hk : scope.kind = .function) : wpAny (model prog w) A (call (.ref f) args) Q E s := by
  refine wpAny_call (codeAny_call_def (fd := fnX name qual params body scope cl .none .none doc pm none (.ref c') ctv) (body := body) (binds := binds) hroom ho rfl hnl hcd rfl hbind hcell hloc (fun h₁ hns hk₁ => ?_) hco hgen hk)
  exact h s.heap.objs.size h₁ ⟨hns, hk₁, Nat.le_refl _⟩ News.nil
theorem nameX_old {M : Model} {A : Around} {E : Value → Shared → Prop} {s : Shared} {h₀ : Heap} {L c a : Addr} {m : Str → Option Value} {cn x : Str} {cs : Scope} {ccd : Value} {cl : List (Str × Addr)} {pos : Pos} {v : Value} {oc : Obj} {Q : Value → Shared → Prop} (F : Fr h₀ L s.heap m) (hc : cl.lookup x = some c) (hv : h₀.get? c = some oc) (hd : oc.data = .cell (some v)) (h : Q v s)
    (hk : cs.kind = .function := by rfl) (hx : (envX cn cs L a ccd cl).kindOf x = some .free := by rfl) (hb : (x == ("__debug__" : Str)) = false := by decide) (hn : (x == ("__classdict__" : Str)) = false := by decide) :
    wpAny M A (eval (.Name x pos) (envX cn cs L a ccd cl)) Q E s := wpAny_Name (wpAny_loadName_free hk hx hc ⟨oc, F.keep _ _ hv, hd⟩ h hn) hb
theorem KAt.keeps {w : World} {bd : List Stmt} {mn : Value} {cm : Addr} {h h' : Heap} {aC : Addr} (H : KAt w bd mn cm h aC) (k : Kp h h') : KAt w bd mn cm h' aC :=
  H.elim fun z I => ⟨z, k _ _ I.hM, k _ _ I.hC, k _ _ I.hN, k _ _ I.h1, I.F1, k _ _ I.hc1, I.Q1, k _ _ I.h2, I.F2, k _ _ I.hc2, I.Q2⟩
theorem lt_call {w : World} {A : Around} {E : Value → Shared → Prop} {s : Shared} {base : Heap} {mg mb : Str → Option Value} {mean : ExcName → Option Value} {Q : Value → Shared → Prop} {outer : List Env} {bd : List Stmt} {sc : Scope} {mn : Value} {cm aC i1 d1 i2 d2 f2 c2 : Addr} {q2 o2 oc : Obj} {x y : Str} {tx ty : Tok} {n k : Int} {R : Bool → Shared → Prop}
   (B : Below A base outer s.heap) (X : (Mine.KC w.params).In s.heap) (T : Top EMP LS mean mg mb s.heap) (hh : A.handled = none) (hdef : KDef w bd sc) (H : KAt w bd mn cm s.heap aC) (hcm : s.heap.get? cm = some oc) (hcd : oc.data = .cell (some (.ref 171)))
   (hI1 : s.heap.get? i1 = some { cls := .ref aC, dict := some d1, slots := #[some (.str x tx)] }) (hD1 : s.heap.get? d1 = some { cls := .type "dict", data := .dict #[] })
   (hI2 : s.heap.get? i2 = some { cls := .ref aC, dict := some d2, slots := #[some (.str y ty)] }) (hD2 : s.heap.get? d2 = some { cls := .type "dict", data := .dict #[] })
   (hf2 : s.heap.get? f2 = some q2) (F2 : FnAt bd 3 (Str.ofString "__lt__") (Str.ofString "cmp_to_key.<locals>.K.__lt__") [(Str.ofString "mycmp", cm)] mn q2 c2) (hc2 : s.heap.get? c2 = some o2) (Q2 : CodeQ o2 (Str.ofString "cmp_to_key.<locals>.K.__lt__"))
   (hd : A.depth + 5 < recursionLimit) (hu : A.units + 100 < cLine) (hx : x.length ≤ 500) (hy : y.length ≤ 500) (hn : parseF x = .ok n) (hk : parseF y = .ok k)
   (ret : ∀ tk h', Kp s.heap h' → R (decide (k < n)) { s with heap := h', toks := tk }) :
   wpAny (model PROG w) A (call (.ref f2) [.ref i1, .ref i2]) (PyProof.Rows.BoolBack R) E s := by
  have hfill : (fun (_ : OpenLaw) (_ : Params → Frag) => True) PySem.Challenge.rw_nq0040_01 Mine.KC := by (k_fill; trivial)
  clear hfill
  w_top off
  obtain ⟨oc', od, name, qual, params, scope, dV, kV, doc, pm, cdv, ct, an, osl, bases, kws, bind, sts, pos, st, hlk⟩ := hdef
  k_dflt (refine' lit_k ?li hlk ?_; (case li => k_is); k_whole)
  rintro rfl rfl
  obtain ⟨p1, b1, s1, ps1, dc1, ctv1, e1, rfl⟩ := F2
  injection e1 with e1
  injection e1 with _ e1 e2 _ _ _ e3
  subst e1 e2 e3
  obtain ⟨vs2, tq2, hd2, hv2⟩ := Q2
  refine enterF (binds := [(Str.ofString "self", .ref i1), (Str.ofString "other", .ref i2)]) T.nolimit hf2 ⟨c2, o2, vs2, tq2, rfl, hc2, hd2, hv2⟩ ?_ ?_ ?_ ?_ ?_ rfl rfl rfl
  · omega
  · exact BindsTo.of_eq rfl
  · exact locs rfl
  rotate_left
  · decide
  intro L' h₁ F' N'
  try dsimp only
  k_fold
  repeat' (first | ((with_reducible show wpAny _ _ (eval (PySem.Expr.Name _ _) _) _ _ _); (with_reducible show wpAny _ _ (eval (Expr.Name (Str.ofString "mycmp") _) _) _ _ _); refine Hold.it ?_) | walk_at "m1")
  refine ⟨?_⟩
  refine nameX_old F' rfl hcm hcd ?_
  repeat' (first | ((with_reducible show wpAny _ _ (eval (PySem.Expr.Name _ _) _) _ _ _); (with_reducible show wpAny _ _ (eval (Expr.Name (Str.ofString "mycmp") _) _) _ _ _); refine Hold.it ?_) | walk_at "m1")
  refine attr_spec (s := { s with heap := h₁, toks := _ }) (base := base) (mg := mg) (mb := mb) (mean := mean) (outer := outer) hh (X.keeps F'.keep) (H.keeps F'.keep) (F'.keep _ _ hI1) (F'.keep _ _ hD1) fun t3 tk3 h3 k3 => ?_
  have F3 := F'.keeps k3
  have N3 := N'.grown k3
  clear F' N'
  repeat' (first | ((with_reducible show wpAny _ _ (eval (PySem.Expr.Name _ _) _) _ _ _); (with_reducible show wpAny _ _ (eval (Expr.Name (Str.ofString "mycmp") _) _) _ _ _); refine Hold.it ?_) | walk_at "m1")
  refine attr_spec (s := { s with heap := h3, toks := _ }) (base := base) (mg := mg) (mb := mb) (mean := mean) (outer := outer) hh (X.keeps F3.keep) (H.keeps F3.keep) (F3.keep _ _ hI2) (F3.keep _ _ hD2) fun t4 tk4 h4 k4 => ?_
  have F4 := F3.keeps k4
  have N4 := N3.grown k4
  clear F3 N3
  repeat' (first | ((with_reducible show wpAny _ _ (eval (PySem.Expr.Name _ _) _) _ _ _); (with_reducible show wpAny _ _ (eval (Expr.Name (Str.ofString "mycmp") _) _) _ _ _); refine Hold.it ?_) | walk_at "m1")
  refine fall_spec (belowX B F4) (X.keeps F4.keep) (T.keeps F4.keep) hh ?_ hx hy hn hk fun t5 h5 tk5 k5 => ?_
  · show A.depth + 1 + 2 < recursionLimit; omega
  have F5 := F4.keeps k5
  have N5 := N4.grown k5
  clear F4 N4
  repeat' (first | ((with_reducible show wpAny _ _ (eval (PySem.Expr.Name _ _) _) _ _ _); (with_reducible show wpAny _ _ (eval (Expr.Name (Str.ofString "mycmp") _) _) _ _ _); refine Hold.it ?_) | walk_at "m1")
  have e : decide (b2i (decide (n < k)) - b2i (decide (k < n)) < 0) = decide (k < n) := by
    unfold b2i
    by_cases h1 : n < k
    · by_cases h2 : k < n
      · omega
      · simp [h1, h2]
    · by_cases h2 : k < n
      · simp [h1, h2]
      · simp [h1, h2]

  rw [e]
  exact ret _ h5 F5.keep
end Mine
end

section
set_option linter.all false
namespace Mine
noncomputable def good {α : Type} (lt : Nat → Nat → Bool) (N : Nat) : KasT α → (α → Prop) → Prop
  | .ret a, Q => Q a
  | .ask i j k, Q => i < N ∧ j < N ∧ good lt N (k (lt i j)) Q
theorem good_mono {α : Type} {lt : Nat → Nat → Bool} {N : Nat} {Q Q' : α → Prop} (hq : ∀ a, Q a → Q' a) : ∀ (t : KasT α), good lt N t Q → good lt N t Q'
  | .ret a, h => hq a h
  | .ask i j k, h => ⟨h.1, h.2.1, good_mono hq (k (lt i j)) h.2.2⟩
theorem good_bind {α β : Type} {lt : Nat → Nat → Bool} {N : Nat} {f : α → KasT β} {Q : β → Prop} : ∀ (t : KasT α), good lt N t (fun a => good lt N (f a) Q) → good lt N (t.bind f) Q
  | .ret a, h => h
  | .ask i j k, h => ⟨h.1, h.2.1, good_bind (k (lt i j)) h.2.2⟩
theorem good_run {α : Type} {lt : Nat → Nat → Bool} {N : Nat} {cmp : Nat → Nat → (Bool → Shared → Prop) → Shared → Prop} {I : Shared → Prop} {Q : α → Shared → Prop} {G : α → Prop}
    (hc : ∀ i j, i < N → j < N → ∀ s C, I s → (∀ s', I s' → C (lt i j) s') → cmp i j C s) (hq : ∀ a s, G a → I s → Q a s) : ∀ (t : KasT α) (s : Shared), good lt N t G → I s → t.kasWp cmp Q s
  | .ret a, s, h, hi => hq a s h hi
  | .ask i j k, s, h, hi => hc i j h.1 h.2.1 s _ hi fun s' hi' => good_run hc hq (k (lt i j)) s' h.2.2 hi'
noncomputable abbrev P (p : Array Nat) (k : Nat) : Nat := p.getD k 0
structure Inv (p : Array Nat) (N n : Nat) : Prop where
  perm : p.toList.Perm (List.range N)
  unt : ∀ k, n ≤ k → k < N → P p k = k
section
variable {p : Array Nat} {N n : Nat}
theorem P_get {k : Nat} (h : k < p.size) : p[k]? = some (P p k) := by
  show p[k]? = some (p.getD k 0)
  simp [Array.getD, h]
theorem P_of {q : Array Nat} {k j : Nat} (h : q[k]? = p[j]?) : P q k = P p j := by
  show q.getD k 0 = p.getD j 0
  rw [Array.getD_eq_getD_getElem?, Array.getD_eq_getD_getElem?, h]
theorem Inv.size (h : Inv p N n) : p.size = N := by
  have := h.perm.length_eq
  simpa using this
theorem Inv.lt (h : Inv p N n) {k : Nat} (hk : k < N) : P p k < N := by
  have hs := h.size
  have : P p k ∈ p.toList := by
    have := P_get (p := p) (k := k) (by (first | lia | omega))
    exact List.mem_of_getElem? (i := k) (by simpa using this)
  exact List.mem_range.mp (h.perm.mem_iff.mp this)
theorem Inv.inj (h : Inv p N n) {a b : Nat} (ha : a < N) (hb : b < N) (e : P p a = P p b) : a = b := by
  have hs := h.size
  have nd : p.toList.Nodup := h.perm.nodup_iff.mpr List.nodup_range
  have e1 := P_get (p := p) (k := a) (by (first | lia | omega))
  have e2 := P_get (p := p) (k := b) (by (first | lia | omega))
  have e3 : p.toList[a]? = p.toList[b]? := by
    rw [Array.getElem?_toList, Array.getElem?_toList, e1, e2, e]
  exact (List.getElem?_inj (by simpa using (by (first | lia | omega) : a < p.size)) nd).mp e3
theorem Inv.low (h : Inv p N n) (hn : n ≤ N) {k : Nat} (hk : k < n) : P p k < n := by
  rcases Nat.lt_or_ge (P p k) n with l | l
  · exact l
  · have h1 := h.lt (k := k) (by (first | lia | omega))
    have h2 := h.unt (P p k) l h1
    have h3 := h.inj h1 (by (first | lia | omega)) h2
    (first | lia | omega)
theorem Inv.mono (h : Inv p N n) {m : Nat} (hm : n ≤ m) : Inv p N m := ⟨h.perm, fun k hk => h.unt k (by (first | lia | omega))⟩
theorem P_rev {i j : Nat} (hj : j ≤ p.size) (k : Nat) : P (kas_rev p i j) k = if i ≤ k ∧ k < j then P p (i + j - 1 - k) else P p k := by
  have := getElem?_mirror_all (xs := p) (i := i) hj k
  split
  · rename_i h
    rw [if_pos h] at this
    exact P_of this
  · rename_i h
    rw [if_neg h] at this
    exact P_of this
theorem Inv.rev (h : Inv p N n) {i j : Nat} (hj : j ≤ n) (hn : n ≤ N) : Inv (kas_rev p i j) N n := by
  have hs := h.size
  refine ⟨(mirror_perm p i j _).toList.trans h.perm, fun k hk hkN => ?_⟩
  rw [P_rev (by (first | lia | omega)), if_neg (by (first | lia | omega))]
  exact h.unt k hk hkN
theorem P_bub {k d : Nat} (hk : k < p.size) (hd : d ≤ k) (i : Nat) : P (bubble p k d) i = if i = k - d then P p k else if k - d < i ∧ i ≤ k then P p (i - 1) else P p i := by
  have := getElem?_bubble (xs := p) hk d hd i
  by_cases h1 : i = k - d
  · rw [if_pos h1] at this ⊢; exact P_of this
  · rw [if_neg h1] at this ⊢
    by_cases h2 : k - d < i ∧ i ≤ k
    · rw [if_pos h2] at this ⊢; exact P_of this
    · rw [if_neg h2] at this ⊢; exact P_of this
theorem Inv.bub (h : Inv p N n) {d : Nat} (hn : n < N) (hd : d ≤ n) : Inv (bubble p n d) N (n + 1) := by
  have hs := h.size
  refine ⟨(bubble_perm p n d).toList.trans h.perm, fun k hk hkN => ?_⟩
  rw [P_bub (by (first | lia | omega)) hd, if_neg (by (first | lia | omega)), if_neg (by (first | lia | omega))]
  exact h.unt k (by (first | lia | omega)) hkN
end
section
variable (v : Nat → Int)
noncomputable def pre (i j : Nat) : Prop := v i < v j ∨ (v i = v j ∧ i < j)
noncomputable def Srt (p : Array Nat) (n : Nat) : Prop := ∀ i j, i < j → j < n → pre v (P p i) (P p j)
noncomputable def Rvs (p : Array Nat) (n : Nat) : Prop := ∀ i j, i < j → j < n → pre v (P p j) (P p i)
noncomputable def ltV (i j : Nat) : Bool := decide (v i < v j)
variable {v}
variable {p : Array Nat} {N n : Nat}
theorem asc_good : ∀ (f n : Nat), Inv p N n → Srt v p n → 1 ≤ n → n + f ≤ N →
    good (ltV v) N (kas_asc p f n) (fun m => n ≤ m ∧ m ≤ n + f ∧ Inv p N m ∧ Srt v p m ∧ (m < n + f → v (P p m) < v (P p (m - 1))))
  | 0, n, I, S, h1, hN => ⟨Nat.le_refl _, Nat.le_refl _, I, S, fun h => absurd h (by (first | lia | omega))⟩
  | f + 1, n, I, S, h1, hN => by
    refine ⟨I.lt (by (first | lia | omega)), I.lt (by (first | lia | omega)), ?_⟩
    by_cases hc : v (P p n) < v (P p (n - 1))
    · have e : ltV v (P p n) (P p (n - 1)) = true := decide_eq_true hc
      rw [e]
      exact ⟨Nat.le_refl _, by (first | lia | omega), I, S, fun _ => hc⟩
    · have e : ltV v (P p n) (P p (n - 1)) = false := decide_eq_false hc
      rw [e]
      have hu := I.unt n (Nat.le_refl _) (by (first | lia | omega))
      have S2 : Srt v p (n + 1) := by
        intro i j hij hj
        by_cases hjn : j < n
        · exact S i j hij hjn
        · have hj2 : j = n := by (first | lia | omega)
          subst hj2
          have l1 := I.low (by (first | lia | omega)) (k := i) hij
          unfold pre
          by_cases hi : i = j - 1
          · subst hi; (first | lia | omega)
          · have := S i (j - 1) (by (first | lia | omega)) (by (first | lia | omega))
            unfold pre at this
            (first | lia | omega)
      refine good_mono (fun m hm => ?_) _ (asc_good f (n + 1) (I.mono (by (first | lia | omega))) S2 (by (first | lia | omega)) (by (first | lia | omega)))
      obtain ⟨a1, a2, a3, a4, a5⟩ := hm
      exact ⟨by (first | lia | omega), by (first | lia | omega), a3, a4, fun h => a5 (by (first | lia | omega))⟩
structure Dsc (v : Nat → Int) (p : Array Nat) (n q : Nat) : Prop where
  hq : q + 1 ≤ n
  a : ∀ i j, i < n - (q + 1) → n - (q + 1) ≤ j → j < n → v (P p j) < v (P p i)
  b : ∀ i j, n - (q + 1) ≤ i → i < j → j < n → v (P p i) = v (P p j) ∧ P p i < P p j
  c : ∀ i j, i < j → j < n - (q + 1) → pre v (P p j) (P p i)
theorem Dsc.one (I : Inv p N n) (hn : n < N) (h1 : 1 ≤ n) (R : Rvs v p n) (h : v (P p n) < v (P p (n - 1))) : Dsc v p (n + 1) 0 := by
  refine ⟨by (first | lia | omega), fun i j hi hj1 hj2 => ?_, fun i j hi hij hj => absurd hij (by (first | lia | omega)), fun i j hij hj => R i j hij (by (first | lia | omega))⟩
  have hj : j = n := by (first | lia | omega)
  subst hj
  by_cases hi2 : i = j - 1
  · subst hi2; exact h
  · have := R i (j - 1) (by (first | lia | omega)) (by (first | lia | omega))
    unfold pre at this
    (first | lia | omega)
theorem Dsc.rev {q : Nat} (D : Dsc v p n q) (I : Inv p N n) (hn : n ≤ N) : Rvs v (kas_rev p (n - (q + 1)) n) n := by
  have hs := I.size
  have hq := D.hq
  intro i j hij hj
  rw [P_rev (by (first | lia | omega)), P_rev (by (first | lia | omega))]
  by_cases h1 : n - (q + 1) ≤ i
  · rw [if_pos ⟨by (first | lia | omega), hj⟩, if_pos ⟨h1, by (first | lia | omega)⟩]
    have := D.b (n - (q + 1) + n - 1 - j) (n - (q + 1) + n - 1 - i) (by (first | lia | omega)) (by (first | lia | omega)) (by (first | lia | omega))
    exact .inr this
  · rw [if_neg (by (first | lia | omega) : ¬ (n - (q + 1) ≤ i ∧ i < n))]
    by_cases h2 : n - (q + 1) ≤ j
    · rw [if_pos ⟨h2, hj⟩]
      exact .inl (D.a i _ (by (first | lia | omega)) (by (first | lia | omega)) (by (first | lia | omega)))
    · rw [if_neg (by (first | lia | omega))]
      exact D.c i j hij (by (first | lia | omega))
theorem Dsc.rvs0 (D : Dsc v p n 0) : Rvs v p n := by
  intro i j hij hj
  have hq := D.hq
  by_cases h : j = n - 1
  · exact .inl (D.a i j (by (first | lia | omega)) (by (first | lia | omega)) hj)
  · exact D.c i j hij (by (first | lia | omega))
theorem desc_good : ∀ (f : Nat) (p : Array Nat) (n q : Nat), Inv p N n → Dsc v p n q → n + f ≤ N →
    good (ltV v) N (kas_desc f p n q) (fun r => Inv r.1 N r.2.1 ∧ r.2.1 ≤ N ∧ Dsc v r.1 r.2.1 r.2.2)
  | 0, p, n, q, I, D, hN => ⟨I, hN, D⟩
  | f + 1, p, n, q, I, D, hN => by
    have hq := D.hq
    have hs := I.size
    refine ⟨I.lt (by (first | lia | omega)), I.lt (by (first | lia | omega)), ?_⟩
    by_cases hc : v (P p n) < v (P p (n - 1))
    · have e : ltV v (P p n) (P p (n - 1)) = true := decide_eq_true hc
      rw [e]
      simp only [if_true]
      by_cases h0 : q > 0
      · rw [if_pos h0]
        have I2 := I.rev (i := n - (q + 1)) (j := n) (Nat.le_refl _) (by (first | lia | omega))
        refine desc_good f _ (n + 1) 0 (I2.mono (by (first | lia | omega))) (Dsc.one I2 (by (first | lia | omega)) (by (first | lia | omega)) (D.rev I (by (first | lia | omega))) ?_) (by (first | lia | omega))
        rw [P_rev (by (first | lia | omega)), P_rev (by (first | lia | omega)), if_neg (by (first | lia | omega)), if_pos ⟨by (first | lia | omega), by (first | lia | omega)⟩]
        have := D.b (n - (q + 1) + n - 1 - (n - 1)) (n - 1) (by (first | lia | omega)) (by (first | lia | omega)) (by (first | lia | omega))
        (first | lia | omega)
      · rw [if_neg h0]
        have h0' : q = 0 := by (first | lia | omega)
        subst h0'
        exact desc_good f p (n + 1) 0 (I.mono (by (first | lia | omega))) (Dsc.one I (by (first | lia | omega)) (by (first | lia | omega)) D.rvs0 hc) (by (first | lia | omega))
    · have e : ltV v (P p n) (P p (n - 1)) = false := decide_eq_false hc
      rw [e]
      simp only [Bool.false_eq_true, if_false]
      refine ⟨I.lt (by (first | lia | omega)), I.lt (by (first | lia | omega)), ?_⟩
      by_cases hd : v (P p (n - 1)) < v (P p n)
      · have e2 : ltV v (P p (n - 1)) (P p n) = true := decide_eq_true hd
        rw [e2]
        simp only [if_true]
        exact ⟨I, by show n ≤ N; (first | lia | omega), D⟩
      · have e2 : ltV v (P p (n - 1)) (P p n) = false := decide_eq_false hd
        rw [e2]
        simp only [Bool.false_eq_true, if_false]
        have hu := I.unt n (Nat.le_refl _) (by (first | lia | omega))
        have D2 : Dsc v p (n + 1) (q + 1) := by
          refine ⟨by (first | lia | omega), fun i j hi hj1 hj2 => ?_, fun i j hi hij hj => ?_, fun i j hij hj => D.c i j hij (by (first | lia | omega))⟩
          · by_cases hjn : j < n
            · exact D.a i j (by (first | lia | omega)) (by (first | lia | omega)) hjn
            · have hj3 : j = n := by (first | lia | omega)
              subst hj3
              have := D.a i (j - 1) (by (first | lia | omega)) (by (first | lia | omega)) (by (first | lia | omega))
              (first | lia | omega)
          · by_cases hjn : j < n
            · exact D.b i j (by (first | lia | omega)) hij hjn
            · have hj3 : j = n := by (first | lia | omega)
              subst hj3
              have l1 := I.low (by (first | lia | omega)) (k := i) (by (first | lia | omega))
              by_cases hi2 : i = j - 1
              · subst hi2; (first | lia | omega)
              · have := D.b i (j - 1) (by (first | lia | omega)) (by (first | lia | omega)) (by (first | lia | omega))
                (first | lia | omega)
        exact desc_good f p (n + 1) (q + 1) (I.mono (by (first | lia | omega))) D2 (by (first | lia | omega))
theorem rvs_rev (I : Inv p N n) (hn : n ≤ N) (R : Rvs v p n) : Srt v (kas_rev p 0 n) n := by
  have hs := I.size
  intro i j hij hj
  rw [P_rev (by (first | lia | omega)), P_rev (by (first | lia | omega)), if_pos ⟨by (first | lia | omega), by (first | lia | omega)⟩, if_pos ⟨by (first | lia | omega), by (first | lia | omega)⟩]
  exact R _ _ (by (first | lia | omega)) (by (first | lia | omega))
theorem tail_good (I : Inv p N n) (hn : n ≤ N) (h1 : 1 ≤ n) (R : Rvs v p n) : good (ltV v) N (kas_tail3 n N p) (fun r => Inv r.2 N r.1 ∧ r.1 ≤ N ∧ 1 ≤ r.1 ∧ Srt v r.2 r.1) := by
  unfold kas_tail3
  refine good_bind _ (good_mono (fun m hm => ?_) _ (asc_good (N - n) n (I.rev (i := 0) (Nat.le_refl _) hn) (rvs_rev I hn R) h1 (by (first | lia | omega))))
  obtain ⟨a1, a2, a3, a4, a5⟩ := hm
  exact ⟨a3, by show m ≤ N; (first | lia | omega), by show 1 ≤ m; (first | lia | omega), a4⟩
theorem descPart_good (I : Inv p N n) (hn : n < N) (h1 : 1 ≤ n) (R : Rvs v p n) (h : v (P p n) < v (P p (n - 1))) : good (ltV v) N (kas_descPart n N p) (fun r => Inv r.2 N r.1 ∧ r.1 ≤ N ∧ 1 ≤ r.1 ∧ Srt v r.2 r.1) := by
  unfold kas_descPart
  refine good_bind _ (good_mono (fun r hr => ?_) _ (desc_good (N - (n + 1)) p (n + 1) 0 (I.mono (by (first | lia | omega))) (Dsc.one I hn h1 R h) (by (first | lia | omega))))
  obtain ⟨I2, hN, D⟩ := hr
  have hq := D.hq
  by_cases h0 : r.2.2 > 0
  · rw [if_pos h0]
    exact tail_good (I2.rev (Nat.le_refl _) hN) hN (by (first | lia | omega)) (D.rev I2 hN)
  · rw [if_neg h0]
    have e : r.2.2 = 0 := by (first | lia | omega)
    rw [e] at D
    exact tail_good I2 hN (by (first | lia | omega)) D.rvs0
theorem count_good (I : Inv p N 1) (hN : 2 ≤ N) : good (ltV v) N (kas_count N p) (fun r => Inv r.2 N r.1 ∧ r.1 ≤ N ∧ 1 ≤ r.1 ∧ Srt v r.2 r.1) := by
  unfold kas_count
  have S1 : Srt v p 1 := fun i j hij hj => absurd hij (by (first | lia | omega))
  refine good_bind _ (good_mono (fun m hm => ?_) _ (asc_good (N - 1) 1 I S1 (Nat.le_refl _) (by (first | lia | omega))))
  obtain ⟨a1, a2, a3, a4, a5⟩ := hm
  by_cases e : m = N
  · rw [if_pos (by simpa using e)]
    exact ⟨a3, by show m ≤ N; (first | lia | omega), a1, a4⟩
  · rw [if_neg (by simpa using e)]
    have h5 := a5 (by (first | lia | omega))
    by_cases h1 : m > 1
    · rw [if_pos h1]
      refine ⟨a3.lt (by (first | lia | omega)), a3.lt (by (first | lia | omega)), ?_⟩
      by_cases hc : v (P p 0) < v (P p (m - 1))
      · have e2 : ltV v (P p 0) (P p (m - 1)) = true := decide_eq_true hc
        rw [e2]
        simp only [if_true]
        exact ⟨a3, by show m ≤ N; (first | lia | omega), a1, a4⟩
      · have e2 : ltV v (P p 0) (P p (m - 1)) = false := decide_eq_false hc
        rw [e2]
        simp only [Bool.false_eq_true, if_false]
        have hs := a3.size
        have heq : ∀ i, i < m → v (P p i) = v (P p 0) := by
          intro i hi
          have x1 : i = 0 ∨ pre v (P p 0) (P p i) := by
            by_cases h0 : i = 0
            · exact .inl h0
            · exact .inr (a4 0 i (by (first | lia | omega)) hi)
          have x2 : i = m - 1 ∨ pre v (P p i) (P p (m - 1)) := by
            by_cases h0 : i = m - 1
            · exact .inl h0
            · exact .inr (a4 i (m - 1) (by (first | lia | omega)) (by (first | lia | omega)))
          unfold pre at x1 x2
          rcases x1 with rfl | x1
          · rfl
          · rcases x2 with rfl | x2
            · (first | lia | omega)
            · (first | lia | omega)
        refine descPart_good (a3.rev (i := 0) (Nat.le_refl _) (by (first | lia | omega))) (by (first | lia | omega)) a1 ?_ ?_
        · intro i j hij hj
          rw [P_rev (by (first | lia | omega)), P_rev (by (first | lia | omega)), if_pos ⟨by (first | lia | omega), by (first | lia | omega)⟩, if_pos ⟨by (first | lia | omega), by (first | lia | omega)⟩]
          exact a4 _ _ (by (first | lia | omega)) (by (first | lia | omega))
        · rw [P_rev (by (first | lia | omega)), P_rev (by (first | lia | omega)), if_neg (by (first | lia | omega)), if_pos ⟨by (first | lia | omega), by (first | lia | omega)⟩]
          have y1 := heq (m - 1) (by (first | lia | omega))
          have y2 := heq (0 + m - 1 - (m - 1)) (by (first | lia | omega))
          (first | lia | omega)
    · rw [if_neg h1]
      have e1 : m = 1 := by (first | lia | omega)
      subst e1
      exact descPart_good a3 (by (first | lia | omega)) (Nat.le_refl _) (fun i j hij hj => absurd hij (by (first | lia | omega))) h5
noncomputable def Plc (v : Nat → Int) (p : Array Nat) (k l r : Nat) : Prop := l ≤ r ∧ r ≤ k ∧ (∀ i, i < l → v (P p i) ≤ v (P p k)) ∧ ∀ i, r ≤ i → i < k → v (P p k) < v (P p i)
theorem place_good {k : Nat} (I : Inv p N k) (hk : k < N) (S : Srt v p k) : ∀ (f l r : Nat), Plc v p k l r → r - l ≤ f → good (ltV v) N (kas_place p k f l r) (fun m => Plc v p k m m)
  | 0, l, r, H, hf => by
    obtain ⟨a, b, c, d⟩ := H
    have e : l = r := by (first | lia | omega)
    subst e
    exact ⟨a, b, c, d⟩
  | f + 1, l, r, H, hf => by
    obtain ⟨a, b, c, d⟩ := H
    unfold kas_place
    by_cases h : l ≥ r
    · rw [if_pos h]
      have e : l = r := by (first | lia | omega)
      subst e
      exact ⟨a, b, c, d⟩
    · rw [if_neg h]
      have m1 : l ≤ (l + r) / 2 := by (first | lia | omega)
      have m2 : (l + r) / 2 < r := by (first | lia | omega)
      refine ⟨I.lt hk, I.lt (by (first | lia | omega)), ?_⟩
      by_cases hc : v (P p k) < v (P p ((l + r) / 2))
      · have e : ltV v (P p k) (P p ((l + r) / 2)) = true := decide_eq_true hc
        rw [e]
        simp only [if_true]
        refine place_good I hk S f l _ ⟨m1, by (first | lia | omega), c, fun i hi hik => ?_⟩ (by (first | lia | omega))
        by_cases hi2 : i = (l + r) / 2
        · subst hi2; exact hc
        · have := S ((l + r) / 2) i (by (first | lia | omega)) hik
          unfold pre at this
          (first | lia | omega)
      · have e : ltV v (P p k) (P p ((l + r) / 2)) = false := decide_eq_false hc
        rw [e]
        simp only [Bool.false_eq_true, if_false]
        refine place_good I hk S f _ r ⟨by (first | lia | omega), b, fun i hi => ?_, d⟩ (by (first | lia | omega))
        by_cases hi2 : i = (l + r) / 2
        · subst hi2; (first | lia | omega)
        · have := S i ((l + r) / 2) (by (first | lia | omega)) (by (first | lia | omega))
          unfold pre at this
          (first | lia | omega)
theorem bub_srt {k l : Nat} (I : Inv p N k) (hk : k < N) (S : Srt v p k) (H : Plc v p k l l) : Srt v (bubble p k (k - l)) (k + 1) := by
  have hs := I.size
  obtain ⟨_, b, c, d⟩ := H
  have hu := I.unt k (Nat.le_refl _) hk
  have low : ∀ i, i < k → P p i < k := fun i hi => I.low (by (first | lia | omega)) hi
  intro i j hij hj
  have ej : k - (k - l) = l := by (first | lia | omega)
  rw [P_bub (by (first | lia | omega)) (by (first | lia | omega)), P_bub (by (first | lia | omega)) (by (first | lia | omega)), ej]
  by_cases hi : i = l
  · rw [if_pos hi, if_neg (by (first | lia | omega)), if_pos ⟨by (first | lia | omega), by (first | lia | omega)⟩]
    exact .inl (d (j - 1) (by (first | lia | omega)) (by (first | lia | omega)))
  · rw [if_neg hi]
    by_cases hi2 : l < i ∧ i ≤ k
    · rw [if_pos hi2, if_neg (by (first | lia | omega)), if_pos ⟨by (first | lia | omega), by (first | lia | omega)⟩]
      exact S (i - 1) (j - 1) (by (first | lia | omega)) (by (first | lia | omega))
    · rw [if_neg hi2]
      by_cases hj2 : j = l
      · rw [if_pos hj2]
        have x1 := c i (by (first | lia | omega))
        have x2 := low i (by (first | lia | omega))
        unfold pre
        (first | lia | omega)
      · rw [if_neg hj2]
        by_cases hj3 : l < j ∧ j ≤ k
        · rw [if_pos hj3]
          by_cases hj4 : j - 1 = i
          · (first | lia | omega)
          · exact S i (j - 1) (by (first | lia | omega)) (by (first | lia | omega))
        · rw [if_neg hj3]
          exact S i j hij (by (first | lia | omega))
theorem bin_good : ∀ (f : Nat) (p : Array Nat) (k : Nat), Inv p N k → Srt v p k → k + f = N → good (ltV v) N (kas_bin f p k) (fun p' => p'.toList.Perm (List.range N) ∧ Srt v p' N)
  | 0, p, k, I, S, hN => by
    have e : k = N := by (first | lia | omega)
    subst e
    exact ⟨I.perm, S⟩
  | f + 1, p, k, I, S, hN => by
    unfold kas_bin
    refine good_bind _ (good_mono (fun l hl => ?_) _ (place_good I (by (first | lia | omega)) S k 0 k ⟨by (first | lia | omega), Nat.le_refl _, fun i hi => absurd hi (by (first | lia | omega)), fun i hi hik => absurd hik (by (first | lia | omega))⟩ (by (first | lia | omega))))
    have hl2 := hl.2.1
    exact bin_good f _ (k + 1) (I.bub (by (first | lia | omega)) (by (first | lia | omega))) (bub_srt I (by (first | lia | omega)) S hl) (by (first | lia | omega))
theorem sort_good (hN : 2 ≤ N) : good (ltV v) N (kas_sort N) (fun p => p.toList.Perm (List.range N) ∧ Srt v p N) := by
  unfold kas_sort
  have I : Inv (List.toArray (List.range N)) N 1 := ⟨by simp, fun k hk hkN => by simp [P, Array.getD, hkN]⟩
  refine good_bind _ (good_mono (fun r hr => ?_) _ (count_good I hN))
  obtain ⟨a1, a2, a3, a4⟩ := hr
  by_cases h : r.1 < N
  · rw [if_pos h]
    have e : max r.1 1 = r.1 := by (first | lia | omega)
    rw [e]
    exact bin_good _ _ _ a1 a4 (by (first | lia | omega))
  · rw [if_neg h]
    have e : r.1 = N := by (first | lia | omega)
    rw [e] at a4
    exact ⟨a1.perm, a4⟩
end
end Mine
end

section
set_option linter.all false
namespace Mine
section
variable (v : Nat → Int)
noncomputable def insI (l : List Nat) (k : Nat) : List Nat := l.take (l.takeWhile fun y => decide (v y ≤ v k)).length ++ k :: l.drop (l.takeWhile fun y => decide (v y ≤ v k)).length
variable {v}
theorem insI_eq (l : List Nat) (k : Nat) : insI v l k = l.takeWhile (fun y => decide (v y ≤ v k)) ++ k :: l.dropWhile (fun y => decide (v y ≤ v k)) := by
  unfold insI
  congr 1
  · induction l with
    | nil => rfl
    | cons a r ih => simp only [List.takeWhile_cons]; split <;> simp [ih]
  · congr 1
    induction l with
    | nil => rfl
    | cons a r ih => simp only [List.takeWhile_cons, List.dropWhile_cons]; split <;> simp [ih]
theorem insI_perm (l : List Nat) (k : Nat) : (insI v l k).Perm (k :: l) := by
  rw [insI_eq]
  refine List.perm_middle.trans (.cons _ ?_)
  rw [List.takeWhile_append_dropWhile]
theorem insI_srt {l : List Nat} {k : Nat} (h : l.Pairwise (pre v)) (hk : ∀ y ∈ l, y < k) : (insI v l k).Pairwise (pre v) := by
  rw [insI_eq]
  have h0 := h
  rw [← List.takeWhile_append_dropWhile (p := fun y => decide (v y ≤ v k)) (l := l)] at h0
  obtain ⟨h1, h2, h3⟩ := List.pairwise_append.mp h0
  have hd : ∀ y ∈ l.dropWhile (fun y => decide (v y ≤ v k)), v k < v y := by
    intro y hy
    have hne : l.dropWhile (fun y => decide (v y ≤ v k)) ≠ [] := List.ne_nil_of_mem hy
    obtain ⟨a, r, e⟩ := List.exists_cons_of_ne_nil hne
    have ha : ¬ (decide (v a ≤ v k)) = true := by
      have := List.head_dropWhile_not (fun y => decide (v y ≤ v k)) hne
      simp only [e, List.head_cons] at this
      simp [this]
    rw [e] at hy h2
    simp only [decide_eq_true_eq] at ha
    rcases List.mem_cons.mp hy with rfl | hy
    · omega
    · have := (List.pairwise_cons.mp h2).1 y hy
      unfold pre at this
      omega
  have ht : ∀ y ∈ l.takeWhile (fun y => decide (v y ≤ v k)), v y ≤ v k := fun y hy => by
    have := List.all_takeWhile (l := l) (p := fun y => decide (v y ≤ v k))
    have := List.all_eq_true.mp this y hy
    simpa using this
  refine List.pairwise_append.mpr ⟨h1, List.pairwise_cons.mpr ⟨fun y hy => .inl (hd y hy), h2⟩, fun a ha b hb => ?_⟩
  rcases List.mem_cons.mp hb with rfl | hb
  · have h4 := ht a ha
    have h5 := hk a (List.takeWhile_sublist _ |>.subset ha)
    unfold pre
    omega
  · exact h3 a ha b hb
noncomputable def laidI (v : Nat → Int) (n : Nat) : List Nat := (List.range n).foldl (insI v) []
theorem laidI_succ (n : Nat) : laidI v (n + 1) = insI v (laidI v n) n := by
  unfold laidI
  rw [List.range_succ, List.foldl_append]
  rfl
theorem laidI_good : ∀ n : Nat, (laidI v n).Perm (List.range n) ∧ (laidI v n).Pairwise (pre v)
  | 0 => ⟨.nil, .nil⟩
  | n + 1 => by
    obtain ⟨a, b⟩ := laidI_good n
    rw [laidI_succ, List.range_succ]
    refine ⟨(insI_perm _ _).trans ((a.cons n).trans (List.perm_append_singleton n _).symm), insI_srt b fun y hy => ?_⟩
    exact List.mem_range.mp (a.mem_iff.mp hy)
theorem pre_eq {l1 l2 : List Nat} (p : l1.Perm l2) (h1 : l1.Pairwise (pre v)) (h2 : l2.Pairwise (pre v)) : l1 = l2 := by
  refine List.Perm.eq_of_pairwise (le := pre v) (fun a b _ _ hab hba => ?_) h1 h2 p
  unfold pre at hab hba
  omega
theorem srt_pairwise {p : Array Nat} {N : Nat} (hs : p.size = N) (S : Srt v p N) : p.toList.Pairwise (pre v) := by
  rw [List.pairwise_iff_getElem]
  intro i j hi hj hij
  have := S i j hij (by simpa [hs] using hj)
  have e1 : P p i = p.toList[i] := by show p.getD i 0 = _; simp only [Array.length_toList] at hi; simp [Array.getD, hi]
  have e2 : P p j = p.toList[j] := by show p.getD j 0 = _; simp only [Array.length_toList] at hj; simp [Array.getD, hj]
  rw [e1, e2] at this
  exact this
theorem sorted_is {p : Array Nat} {N : Nat} (h : p.toList.Perm (List.range N)) (S : Srt v p N) : p.toList = laidI v N := by
  have hs : p.size = N := by simpa using h.length_eq
  exact pre_eq (h.trans (laidI_good N).1.symm) (srt_pairwise hs S) (laidI_good N).2
end
theorem laid_map (rs : List Str) : ∀ n : Nat, n ≤ rs.length → (laidI (fun i => - portF (rs.getD i Str.empty)) n).map (fun i => rs.getD i Str.empty) = laidF (rs.take n)
  | 0, _ => rfl
  | n + 1, h => by
    have ih := laid_map rs n (by omega)
    rw [laidI_succ, List.take_add_one]
    have e : rs[n]? = some (rs.getD n Str.empty) := by rw [List.getD_eq_getElem?_getD, List.getElem?_eq_getElem (by omega)]; rfl
    rw [e]
    unfold laidF
    rw [List.foldl_append]
    show _ = layF (laidF (rs.take n)) (rs.getD n Str.empty)
    rw [← ih]
    generalize laidI (fun i => - portF (rs.getD i Str.empty)) n = l
    have key : (l.takeWhile fun y => decide (- portF (rs.getD y Str.empty) ≤ - portF (rs.getD n Str.empty))).length = posF (l.map fun i => rs.getD i Str.empty) (portF (rs.getD n Str.empty)) := by
      unfold posF
      induction l with
      | nil => rfl
      | cons a r ih2 =>
        simp only [List.takeWhile_cons, List.map_cons]
        by_cases h1 : portF (rs.getD n Str.empty) ≤ portF (rs.getD a Str.empty)
        · rw [if_pos (by simpa using h1), if_pos (by simpa using h1)]
          rw [List.length_cons, List.length_cons, ih2]
        · rw [if_neg (by simpa using h1), if_neg (by simpa using h1)]
          rfl
    unfold insI layF
    rw [key, List.map_append, List.map_cons, List.map_take, List.map_drop]
theorem laid_all (rs : List Str) : (laidI (fun i => - portF (rs.getD i Str.empty)) rs.length).map (fun i => rs.getD i Str.empty) = laidF rs := by
  rw [laid_map rs rs.length (Nat.le_refl _), List.take_length]
end Mine
end

section
open PySem.W.X
set_option linter.all false
namespace Mine
set_option maxRecDepth 100000
set_option maxHeartbeats 1000000
noncomputable def KeysBy (aC : Addr) (ins : List (Addr × Obj)) (ks : List Value) (rs : List (Str × Tok)) : Prop := ks.length = rs.length ∧ ∀ h : Heap, (∀ p ∈ ins, h.get? p.1 = some p.2) → ∀ (i : Nat) (x : Str) (t : Tok), rs[i]? = some (x, t) →
  ∃ aI aD, ks[i]? = some (.ref aI) ∧ h.get? aI = some { cls := .ref aC, dict := some aD, slots := #[some (.str x t)] } ∧ h.get? aD = some { cls := .type "dict", data := .dict #[] }
theorem KeysBy.snoc {aC : Addr} {ins : List (Addr × Obj)} {ks : List Value} {rs : List (Str × Tok)} (K : KeysBy aC ins ks rs) (aI aD : Addr) (x : Str) (t : Tok) :
    KeysBy aC ((aI, { cls := .ref aC, dict := some aD, slots := #[some (.str x t)] }) :: (aD, { cls := .type "dict", data := .dict #[] }) :: ins) (ks ++ [.ref aI]) (rs ++ [(x, t)]) := by
  refine ⟨by simp [K.1], fun h hk i y u e => ?_⟩
  rcases Nat.lt_or_ge i rs.length with l | l
  · rw [List.getElem?_append_left l] at e
    obtain ⟨a, d, h1, h2, h3⟩ := K.2 h (fun p hp => hk p (.tail _ (.tail _ hp))) i y u e
    exact ⟨a, d, by rw [List.getElem?_append_left (by rw [K.1]; exact l)]; exact h1, h2, h3⟩
  · rw [List.getElem?_append_right l] at e
    have hi : i - rs.length = 0 := by
      cases q : i - rs.length with
      | zero => rfl
      | succ n => rw [q] at e; simp at e
    rw [hi] at e
    simp at e
    obtain ⟨rfl, rfl⟩ := e
    refine ⟨aI, aD, ?_, hk _ (.head _), hk _ (.tail _ (.head _))⟩
    rw [List.getElem?_append_right (by rw [K.1]; exact l), K.1, hi]
    rfl
section
variable {w : World} {A : Around} {s : Shared} {base : Heap} {mg mb : Str → Option Value} {mean : ExcName → Option Value} {outer : List Env} {h₀ : Heap} {L aC kS D : Addr} {m : Str → Option Value} {news exK : List (Addr × Obj)} {bd : List Stmt} {sc : Scope} {mn : Value} {cm : Addr} {e1 : Nat}
theorem keys_go (hdef : KDef w bd sc) (hh : A.handled = none) (X : (Mine.KC w.params).In h₀) (T : Top EMP LS mean mg mb h₀) (hd : A.depth + 10 < recursionLimit) (hu : A.units + 300 < cLine)
   (hK : ∀ h, (∀ p ∈ news, h.get? p.1 = some p.2) → KAt w bd mn cm h aC) (hkD : D ≠ kS) (hkn : ∀ p ∈ news, p.1 ≠ kS ∧ p.1 ≠ D) {Fin : List Value → Nat → Shared → Prop} :
   ∀ (todo done : List (Str × Tok)) (ks : List Value) (e : Nat) (ins : List (Addr × Obj)) (tk : Tok) (h : Heap), Fr h₀ L h m → News h₀ L h ((kS, seqObj "list" (List.toArray ks) e) :: (D, seqObj "list" #[] e1) :: (ins ++ news)) → (∀ p ∈ ins, p.1 ≠ kS ∧ p.1 ≠ D) → KeysBy aC ins ks done →
   (∀ ks e ins tk h, Fr h₀ L h m → News h₀ L h ((kS, seqObj "list" (List.toArray ks) e) :: (D, seqObj "list" #[] e1) :: (ins ++ news)) → (∀ p ∈ ins, p.1 ≠ kS ∧ p.1 ≠ D) → KeysBy aC ins ks (done ++ todo) → Fin ks e { s with heap := h, toks := tk }) →
   KatKeys PROG w A h₀ L m kS (.ref aC) Fin (strValues todo) ks e { s with heap := h, toks := tk }
  | [], done, ks, e, ins, tk, h, F, N, hi, K, fin => by
    have := fin ks e ins tk h F N hi (by rw [List.append_nil]; exact K)
    exact this
  | (x, t) :: r, done, ks, e, ins, tk, h, F, N, hi, K, fin => by
    refine KatKeys.cons (inst_spec (s := { s with heap := h, toks := tk }) (base := s.heap) (mg := mg) (mb := mb) (mean := mean) (outer := []) hdef hh (X.keeps F.keep) (T.keeps F.keep) (hK h fun p hp => (N p (.tail _ (.tail _ (List.mem_append_right _ hp)))).1) hd fun aI aD tk2 h2 k2 i1 i2 i3 i4 i5 => ?_)
    have F2 := F.keeps k2
    have N2 := N.grown k2
    have nL : ∀ a, h.get? a = none → a ≠ L := fun a e q => by
      obtain ⟨oL, es, ep, hL, r⟩ := F.ns
      rw [q, hL] at e; cases e
    have ng : ∀ a, h.get? a = none → h₀.get? a = none := fun a e => by
      cases q : h₀.get? a with
      | none => rfl
      | some o => rw [F.keep _ _ q] at e; cases e
    have hkS := (N _ (.head _)).1
    have hDD := (N _ (.tail _ (.head _))).1
    have off1 : ∀ a, h.get? a = none → a ≠ kS := fun a e q => by
      rw [q, hkS] at e
      cases e
    have off2 : ∀ a, h.get? a = none → a ≠ D := fun a e q => by
      rw [q, hDD] at e
      cases e
    have off : ∀ a, h.get? a = none → a ≠ kS ∧ a ≠ D := fun a e => ⟨off1 a e, off2 a e⟩
    have N3 : News h₀ L h2 ((kS, seqObj "list" (List.toArray ks) e) :: (D, seqObj "list" #[] e1) :: (((aI, { cls := .ref aC, dict := some aD, slots := #[some (.str x t)] }) :: (aD, { cls := .type "dict", data := .dict #[] }) :: ins) ++ news)) := by
      intro p hp
      rcases List.mem_cons.mp hp with rfl | hp
      · exact N2 _ (.head _)
      rcases List.mem_cons.mp hp with rfl | hp
      · exact N2 _ (.tail _ (.head _))
      rcases List.mem_cons.mp hp with rfl | hp
      · exact ⟨i1, nL _ i2, ng _ i2⟩
      rcases List.mem_cons.mp hp with rfl | hp
      · exact ⟨i3, nL _ i4, ng _ i4⟩
      · exact N2 _ (.tail _ (.tail _ hp))
    have hi3 : ∀ p ∈ ((aI, ({ cls := .ref aC, dict := some aD, slots := #[some (.str x t)] } : Obj)) :: (aD, { cls := .type "dict", data := .dict #[] }) :: ins), p.1 ≠ kS ∧ p.1 ≠ D := by
      intro p hp
      rcases List.mem_cons.mp hp with rfl | hp
      · exact off _ i2
      rcases List.mem_cons.mp hp with rfl | hp
      · exact off _ i4
      · exact hi p hp
    have hall : ∀ p ∈ ((D, seqObj "list" #[] e1) :: (((aI, ({ cls := .ref aC, dict := some aD, slots := #[some (.str x t)] } : Obj)) :: (aD, { cls := .type "dict", data := .dict #[] }) :: ins) ++ news)), p.1 ≠ kS := by
      intro p hp
      rcases List.mem_cons.mp hp with rfl | hp
      · exact hkD
      rcases List.mem_append.mp hp with hp | hp
      · exact (hi3 p hp).1
      · exact (hkn p hp).1
    refine KatBack.intro F2 N3 (.head hall) fun h3 c F3 N4 => ?_
    refine keys_go hdef hh X T hd hu hK hkD hkn r (done ++ [(x, t)]) (ks ++ [.ref aI]) c _ tk2 h3 F3 N4 hi3 (K.snoc aI aD x t) fun ks' e' ins' tk' h' F' N' hi' K' => ?_
    exact fin ks' e' ins' tk' h' F' N' hi' (by simpa using K')
end
theorem out_eq (rs : List (Str × Tok)) : ∀ l : List Nat, (∀ i ∈ l, i < rs.length) → l.map (fun i => (strValues rs).getD i Value.none) = strValues (l.map fun i => rs.getD i (Str.empty, 0))
  | [], _ => rfl
  | i :: l, h => by
    have hi := h i (.head _)
    have ih := out_eq rs l fun j hj => h j (.tail _ hj)
    have e : (strValues rs).getD i Value.none = .str (rs.getD i (Str.empty, 0)).1 (rs.getD i (Str.empty, 0)).2 := by
      simp [strValues, List.getD_eq_getElem?_getD, List.getElem?_eq_getElem hi]
    rw [List.map_cons, ih, e]
    rfl
theorem fst_getD (rs : List (Str × Tok)) (i : Nat) : (rs.getD i (Str.empty, 0)).1 = (rs.map (·.1)).getD i Str.empty := by
  simp only [List.getD_eq_getElem?_getD, List.getElem?_map]
  cases rs[i]? <;> rfl
theorem sorted_spec {w : World} {A : Around} {E : Value → Shared → Prop} {s : Shared} {base : Heap} {mg mb : Str → Option Value} {mean : ExcName → Option Value} {Q : Value → Shared → Prop} {outer : List Env} {h₀ : Heap} {L l aC cm : Addr} {m : Str → Option Value} {news exK : List (Addr × Obj)} {bd : List Stmt} {sc : Scope} {mn : Value} {rs : List (Str × Tok)} {z : Nat}
   (F : Fr h₀ L s.heap m) (N : News h₀ L s.heap news) (hl : (l, lobj (strValues rs) z) ∈ news) (hex : ∀ p ∈ exK, p ∈ news) (hK : ∀ h : Heap, (∀ p ∈ exK, h.get? p.1 = some p.2) → KAt w bd mn cm h aC ∧ ∃ oc, h.get? cm = some oc ∧ oc.data = .cell (some (.ref 171)))
   (hdef : KDef w bd sc) (hB : ∀ h, Fr h₀ L h m → Below A base outer h) (X : (Mine.KC w.params).In h₀) (T : Top EMP LS mean mg mb h₀) (hh : A.handled = none) (hd : A.depth + 10 < recursionLimit) (hu : A.units + 302 < cLine)
   (h2 : 2 ≤ rs.length) (h64 : rs.length < 64) (hr : ∀ r ∈ rs.map (·.1), Asc r ∧ r.length ≤ 500 ∧ ∃ n, parseF r = .ok n)
   (ret : ∀ D ts z h' tk, Fr h₀ L h' m → News h₀ L h' ((D, lobj (strValues ts) z) :: news) → ts.map (·.1) = laidF (rs.map (·.1)) → Q (.ref D) { s with heap := h', toks := tk }) :
   wpAny (model PROG w) A (call (.builtin "sorted") [.ref l] [(Str.ofString "key", .ref aC)]) Q E s := by
  have hlen : (strValues rs).length = rs.length := by simp [strValues]
  refine kat_sortedK (vs := strValues rs) (b := false) F N ⟨_, (N _ hl).1, rfl, _, rfl⟩ (by omega) (by omega) (ksk_s1 _ _) (fun x => ksk_l1 _ _) (fun x => ksk_t1 _ _) fun D kS e1 h1 F1 N1 hDk hlt => ?_
  have hkn : ∀ p ∈ news, p.1 ≠ kS ∧ p.1 ≠ D := fun p hp => ⟨Nat.ne_of_lt (Nat.lt_trans (hlt p hp) hDk), Nat.ne_of_lt (hlt p hp)⟩
  refine keys_go (s := { s with heap := h1 }) (A := A.in1.in1) (D := D) (kS := kS) (news := news) (e1 := e1) hdef hh X T hd (by show A.units + 1 + 1 + 300 < cLine; omega) (fun h hk => (hK h fun p hp => hk p (hex p hp)).1) (Nat.ne_of_lt hDk) hkn rs [] [] 0 [] _ h1 F1 N1 (fun p hp => nomatch hp) ⟨rfl, fun h hk i x t e => by simp at e⟩ ?_
  intro ks e ins tk h2' F2 N2 hi2 K2
  simp only [List.nil_append] at K2
  have hkl := K2.1
  have hall : ∀ p ∈ (D, seqObj "list" #[] e1) :: (ins ++ news), p.1 ≠ kS := by
    intro p hp
    rcases List.mem_cons.mp hp with rfl | hp
    · exact Nat.ne_of_lt hDk
    rcases List.mem_append.mp hp with hp | hp
    · exact (hi2 p hp).1
    · exact (hkn p hp).1
  have hall2 : ∀ p ∈ ins ++ news, p.1 ≠ D := by
    intro p hp
    rcases List.mem_append.mp hp with hp | hp
    · exact (hi2 p hp).2
    · exact (hkn p hp).2
  have byN : ∀ {h : Heap}, News h₀ L h ((kS, seqObj "list" (List.toArray ks) e) :: (D, seqObj "list" #[] e1) :: (ins ++ news)) → (∀ p ∈ ins, h.get? p.1 = some p.2) ∧ ∀ p ∈ news, h.get? p.1 = some p.2 := fun N =>
    ⟨fun p hp => (N p (.tail _ (.tail _ (List.mem_append_left _ hp)))).1, fun p hp => (N p (.tail _ (.tail _ (List.mem_append_right _ hp)))).1⟩
  refine kas_kind (T := .ref aC) (by omega) (fun v hv => ?_) (by simp) (by simp) ?_
  · obtain ⟨i, hi, rfl⟩ := List.getElem_of_mem hv
    obtain ⟨a, d, k1, k2, k3⟩ := K2.2 h2' (byN N2).1 i (rs[i]'(by omega)).1 (rs[i]'(by omega)).2 (by rw [List.getElem?_eq_getElem (by omega)])
    rw [List.getElem?_eq_getElem hi] at k1
    injection k1 with k1
    rw [k1]
    exact (Looks.ld k2).andThen .now
  rw [hlen]
  refine good_run (lt := ltV fun i => - portF ((rs.map (·.1)).getD i Str.empty)) (N := rs.length) (I := fun s' => ∃ tk h, s' = { s with heap := h, toks := tk } ∧ Fr h₀ L h m ∧ News h₀ L h ((kS, seqObj "list" (List.toArray ks) e) :: (D, seqObj "list" #[] e1) :: (ins ++ news))) ?hc ?hq _ _ (sort_good h2) ⟨tk, h2', rfl, F2, N2⟩
  case hc =>
    rintro i j hi hj _ C ⟨tk3, h3, rfl, F3, N3⟩ hC
    have ei : rs[i]? = some (rs[i].1, rs[i].2) := List.getElem?_eq_getElem hi
    have ej : rs[j]? = some (rs[j].1, rs[j].2) := List.getElem?_eq_getElem hj
    obtain ⟨ai, di, k1, k2, k3⟩ := K2.2 h3 (byN N3).1 i _ _ ei
    obtain ⟨aj, dj, l1, l2, l3⟩ := K2.2 h3 (byN N3).1 j _ _ ej
    obtain ⟨ax, lx, n, px⟩ := hr rs[i].1 (List.mem_map.mpr ⟨_, List.getElem_mem hi, rfl⟩)
    obtain ⟨ay, ly, k, py⟩ := hr rs[j].1 (List.mem_map.mpr ⟨_, List.getElem_mem hj, rfl⟩)
    obtain ⟨KA, oc, hcm, hcd⟩ := hK h3 fun p hp => (byN N3).2 p (hex p hp)
    have ew : ltV (fun i => - portF ((rs.map (·.1)).getD i Str.empty)) i j = decide (k < n) := by
      show decide (- portF ((rs.map (·.1)).getD i Str.empty) < - portF ((rs.map (·.1)).getD j Str.empty)) = _
      rw [show (rs.map (·.1)).getD i Str.empty = rs[i].1 by simp [List.getD_eq_getElem?_getD, List.getElem?_eq_getElem hi], show (rs.map (·.1)).getD j Str.empty = rs[j].1 by simp [List.getD_eq_getElem?_getD, List.getElem?_eq_getElem hj], portF_of px, portF_of py]
      congr 1
      exact propext ⟨fun h => by omega, fun h => by omega⟩
    rw [ew] at hC
    unfold kas_ask katRev
    simp only [Bool.false_eq_true, if_false]
    rw [show ks.getD i Value.none = .ref ai by simp [List.getD_eq_getElem?_getD, k1], show ks.getD j Value.none = .ref aj by simp [List.getD_eq_getElem?_getD, l1]]
    refine lt_find (s := { s with heap := h3, toks := tk3 }) (base := base) (mg := mg) (mb := mb) (mean := mean) (outer := outer) (Q := Q) hh (X.keeps F3.keep) KA k2 k3 (by show A.units + 1 + 1 < cLine; omega) fun f2 c2 q2 o2 tk4 h4 k4 hf2 FF hc2 QQ => ?_
    have F4 := F3.keeps k4
    refine lt_call (s := { s with heap := h4, toks := tk4 }) (Q := Q) (sc := sc) (n := n) (k := k) ⟨(hB h4 F4).stack, (hB h4 F4).stays, (hB h4 F4).frames⟩ (X.keeps F4.keep) (T.keeps F4.keep) hh hdef (KA.keeps k4) (k4 _ _ hcm) hcd (k4 _ _ k2) (k4 _ _ k3) (k4 _ _ l2) (k4 _ _ l3) hf2 FF hc2 QQ (by show A.depth + 5 < recursionLimit; omega) (by show A.units + 1 + 1 + 100 < cLine; omega) lx ly px py fun tk5 h5 k5 => ?_
    exact hC _ ⟨tk5, h5, rfl, F4.keeps k5, (N3.grown k4).grown k5⟩
  case hq =>
    rintro p _ ⟨hp, S⟩ ⟨tk3, h3, rfl, F3, N3⟩
    have hp2 := sorted_is hp S
    refine KatFin.intro F3 N3 (.head hall) fun h4 c4 F4 N4 => KasFin.intro F4 N4 (.tail (Ne.symm (Nat.ne_of_lt hDk)) (.head hall2)) fun h5 c5 F5 N5 => ?_
    have eo : katRev false (p.toList.map fun i => (katRev false (strValues rs)).getD i Value.none) = strValues (p.toList.map fun i => rs.getD i (Str.empty, 0)) :=
      out_eq rs p.toList fun i hi => List.mem_range.mp (hp.mem_iff.mp hi)
    rw [eo] at N5
    refine ret D (p.toList.map fun i => rs.getD i (Str.empty, 0)) c5 h5 tk3 F5 (fun q hq => N5 q ?_) ?_
    · rcases List.mem_cons.mp hq with rfl | hq
      · exact .tail _ (.head _)
      · exact .tail _ (.tail _ (List.mem_append_right _ hq))
    · rw [List.map_map, hp2]
      show (laidI _ rs.length).map (fun i => (rs.getD i (Str.empty, 0)).1) = _
      simp only [fst_getD]
      have := laid_all (rs.map (·.1))
      rw [List.length_map] at this
      exact this
end Mine
end

section
namespace Mine
set_option maxRecDepth 100000
set_option maxHeartbeats 1000000
set_option linter.all false
theorem mem_laid : ∀ (rs l : List Str) (x : Str), x ∈ rs.foldl layF l → x ∈ l ∨ x ∈ rs
  | [], l, x, h => .inl h
  | r :: rs, l, x, h => by
    rcases mem_laid rs (layF l r) x h with h | h
    · unfold layF at h
      rcases List.mem_append.mp h with h | h
      · exact .inl (List.mem_of_mem_take h)
      · rcases List.mem_cons.mp h with rfl | h
        · exact .inr (.head _)
        · exact .inl (List.mem_of_mem_drop h)
    · exact .inr (.tail _ h)
noncomputable def law_b14.Stm (w : World) (A : Around) (E : Value → Shared → Prop) (s : Shared) (base : Heap) (mg : Str → Option Value) (mb : Str → Option Value) (mean : ExcName → Option Value) (Q : Value → Shared → Prop) (outer : List Env) (g : Heap) (l : Addr) (L' : Addr) (D : Addr) (T : Addr) (W : Addr) (LO : Addr) (SH : Addr) (SP : Addr) (TU : Addr) (GO : Addr) (us : List (Str × Tok)) (z : Nat) (news : List (Addr × Obj)) : Prop := ∀ (body : List Stmt) (scope : Scope) (qual : Str) (cdv : Value) (hdef : LawDef w body scope qual cdv) (G : Gr w A base outer mean mg mb g) (hh : A.handled = none) (hd : A.depth + 20 < recursionLimit) (hu : A.units + 400 < cLine) (F : Fr g L' s.heap (lawMap l { row := some (.ref D), things := some (.ref T), writings := some (.ref W), longs := some (.ref LO), shorts := some (.ref SH), spoiled := some (.ref SP), turned := some (.ref TU), good := some (.ref GO) })) (N : News g L' s.heap news) (hg : g.get? 60 = none) (hL' : L' ≠ 60) (hne : ∀ p ∈ news, p.1 ≠ 60) (tab : s.heap.get? 60 = some (tabObj #[])) (hG : (GO, lobj (strValues us) z) ∈ news) (hr : ∀ r ∈ us.map (·.1), Asc r ∧ r.length ≤ 500 ∧ ∃ n, parseF r = .ok n) (h2 : 2 ≤ us.length) (h64 : us.length < 64), wpAny (model PROG w) (A.deeper (envOfC qual scope L' 188 cdv)) (execs ((body.drop 14).take 1) (envOfC qual scope L' 188 cdv))
    (fun f s' => Hold (f = .next ∧ ∃ h tk cC, s' = { s with heap := h, toks := tk } ∧ Fr g L' h (lawMap l { row := some (.ref D), things := some (.ref T), writings := some (.ref W), longs := some (.ref LO), shorts := some (.ref SH), spoiled := some (.ref SP), turned := some (.ref TU), good := some (.ref GO) }) ∧ News g L' h ((60, tabObj #[rawInt 28, rawInt 4, .ref cC]) :: news))) (fun _ _ => False) s
noncomputable def law_b14.cst : (World) × (Around) × (Value → Shared → Prop) × (Shared) × (Heap) × (Str → Option Value) × (Str → Option Value) × (ExcName → Option Value) × (Value → Shared → Prop) × (List Env) × (Heap) × (Addr) × (Addr) × (Addr) × (Addr) × (Addr) × (Addr) × (Addr) × (Addr) × (Addr) × (Addr) × (List (Str × Tok)) × (Nat) × (List (Addr × Obj)) := eps (aWorld 0, {}, fun _ _ => True, {}, {}, fun _ => none, fun _ => none, fun _ => none, fun _ _ => True, [], {}, 0, 0, 0, 0, 0, 0, 0, 0, 0, 0, [], 0, []) (fun q => law_b14.Stm q.1 q.2.1 q.2.2.1 q.2.2.2.1 q.2.2.2.2.1 q.2.2.2.2.2.1 q.2.2.2.2.2.2.1 q.2.2.2.2.2.2.2.1 q.2.2.2.2.2.2.2.2.1 q.2.2.2.2.2.2.2.2.2.1 q.2.2.2.2.2.2.2.2.2.2.1 q.2.2.2.2.2.2.2.2.2.2.2.1 q.2.2.2.2.2.2.2.2.2.2.2.2.1 q.2.2.2.2.2.2.2.2.2.2.2.2.2.1 q.2.2.2.2.2.2.2.2.2.2.2.2.2.2.1 q.2.2.2.2.2.2.2.2.2.2.2.2.2.2.2.1 q.2.2.2.2.2.2.2.2.2.2.2.2.2.2.2.2.1 q.2.2.2.2.2.2.2.2.2.2.2.2.2.2.2.2.2.1 q.2.2.2.2.2.2.2.2.2.2.2.2.2.2.2.2.2.2.1 q.2.2.2.2.2.2.2.2.2.2.2.2.2.2.2.2.2.2.2.1 q.2.2.2.2.2.2.2.2.2.2.2.2.2.2.2.2.2.2.2.2.1 q.2.2.2.2.2.2.2.2.2.2.2.2.2.2.2.2.2.2.2.2.2.1 q.2.2.2.2.2.2.2.2.2.2.2.2.2.2.2.2.2.2.2.2.2.2.1 q.2.2.2.2.2.2.2.2.2.2.2.2.2.2.2.2.2.2.2.2.2.2.2)
namespace law_b14
noncomputable def A : Around := cst.2.1
noncomputable def s : Shared := cst.2.2.2.1
noncomputable def base : Heap := cst.2.2.2.2.1
noncomputable def mg : Str → Option Value := cst.2.2.2.2.2.1
noncomputable def mb : Str → Option Value := cst.2.2.2.2.2.2.1
noncomputable def mean : ExcName → Option Value := cst.2.2.2.2.2.2.2.1
noncomputable def outer : List Env := cst.2.2.2.2.2.2.2.2.2.1
noncomputable def g : Heap := cst.2.2.2.2.2.2.2.2.2.2.1
noncomputable def L' : Addr := cst.2.2.2.2.2.2.2.2.2.2.2.2.1
noncomputable def GO : Addr := cst.2.2.2.2.2.2.2.2.2.2.2.2.2.2.2.2.2.2.2.2.1
noncomputable def us : List (Str × Tok) := cst.2.2.2.2.2.2.2.2.2.2.2.2.2.2.2.2.2.2.2.2.2.1
noncomputable def news : List (Addr × Obj) := cst.2.2.2.2.2.2.2.2.2.2.2.2.2.2.2.2.2.2.2.2.2.2.2
theorem it : Stm cst.1 A cst.2.2.1 s base mg mb mean cst.2.2.2.2.2.2.2.2.1 outer g cst.2.2.2.2.2.2.2.2.2.2.2.1 L' cst.2.2.2.2.2.2.2.2.2.2.2.2.2.1 cst.2.2.2.2.2.2.2.2.2.2.2.2.2.2.1 cst.2.2.2.2.2.2.2.2.2.2.2.2.2.2.2.1 cst.2.2.2.2.2.2.2.2.2.2.2.2.2.2.2.2.1 cst.2.2.2.2.2.2.2.2.2.2.2.2.2.2.2.2.2.1 cst.2.2.2.2.2.2.2.2.2.2.2.2.2.2.2.2.2.2.1 cst.2.2.2.2.2.2.2.2.2.2.2.2.2.2.2.2.2.2.2.1 GO us cst.2.2.2.2.2.2.2.2.2.2.2.2.2.2.2.2.2.2.2.2.2.2.1 news := by
  intro body scope qual cdv hdef G hh hd hu F N hg hL' hne tab hG hr h2 h64
  have hfill : (fun (_ : OpenLaw) (_ : Params → Frag) => True) PySem.Challenge.rw_nq0040_01 Mine.KC := by (k_fill; trivial)
  clear hfill
  w_top off
  obtain ⟨oc, od, name, params, dV, kV, doc, pm, an, ct, osl, hlk⟩ := hdef
  k_dflt (refine' lit_def ?li hlk ?_; (case li => k_is); k_whole)
  rintro rfl rfl rfl rfl
  dsimp only [List.drop, List.take]
  have G0 := G
  obtain ⟨B2, X2, T2, D2⟩ := G
  repeat' (first | ((with_reducible show wpAny _ _ (compareOp CmpOp.NotEq (Value.ref _) (Value.ref _)) _ _ _); refine Hold.it ?_) | ((with_reducible show wpAny _ _ (call (Value.builtin "sorted") _ _) _ _ _); refine Hold.it ?_) | walk_at "m1")
  refine ctk_spec (base := base) (outer := outer) (mg := mg) (mb := mb) (mean := mean) hh (X2.keeps F.keep) (T2.keeps F.keep) tab ?_ fun bd sc mn cm aC cC ex tk3 h3 hbd hk3 h603 hex hka => ?_
  · show A.depth + 1 + 10 < recursionLimit; omega
  have off : ∀ b o, g.get? b = some o → b ≠ 60 := fun b o e q => by rw [q, hg] at e; cases e
  have F3 : Fr g L' h3 _ := ⟨(by obtain ⟨oL, es, ep, hL1, r⟩ := F.ns; exact ⟨oL, es, ep, hk3 _ _ hL1 hL', r⟩), fun b o e => hk3 _ _ (F.keep b o e) (off b o e), F.above⟩
  have N3 : News g L' h3 ((60, tabObj #[rawInt 28, rawInt 4, .ref cC]) :: (ex ++ news)) := by
    intro p hp
    rcases List.mem_cons.mp hp with rfl | hp
    · exact ⟨h603, Ne.symm hL', hg⟩
    rcases List.mem_append.mp hp with hp | hp
    · refine ⟨(hex p hp).1, fun q => ?_, ?_⟩
      · obtain ⟨oL, es, ep, hL1, r⟩ := F.ns
        have := (hex p hp).2
        rw [q, hL1] at this; cases this
      · cases q : g.get? p.1 with
        | none => rfl
        | some o => have := (hex p hp).2; rw [F.keep _ _ q] at this; cases this
    · exact ⟨hk3 _ _ (N p hp).1 (hne p hp), (N p hp).2⟩
  clear F N
  repeat' (first | ((with_reducible show wpAny _ _ (compareOp CmpOp.NotEq (Value.ref _) (Value.ref _)) _ _ _); refine Hold.it ?_) | ((with_reducible show wpAny _ _ (call (Value.builtin "sorted") _ _) _ _ _); refine Hold.it ?_) | walk_at "m1")
  refine ⟨?_⟩
  with_unfolding_all show wpAny _ _ (call (.builtin "sorted") [.ref GO] [(Str.ofString "key", .ref aC)]) _ _ _
  refine sorted_spec (h₀ := g) (L := L') (base := base) (mean := mean) (mg := mg) (mb := mb) (aC := aC) (exK := ex) (rs := us) F3 N3 (.tail _ (List.mem_append_right _ hG)) (fun p hp => .tail _ (List.mem_append_left _ hp)) hka hbd (fun h F => belowX B2 F) X2 T2 hh ?_ ?_ h2 h64 hr ?_
  · show A.depth + 1 + 10 < recursionLimit; omega
  · show A.units + 3 + 302 < cLine; omega
  intro D4 ts z4 h4 tk4 F4 N4 hts
  clear F3 N3
  repeat' (first | ((with_reducible show wpAny _ _ (compareOp CmpOp.NotEq (Value.ref _) (Value.ref _)) _ _ _); refine Hold.it ?_) | ((with_reducible show wpAny _ _ (call (Value.builtin "sorted") _ _) _ _ _); refine Hold.it ?_) | walk_at "m1")
  refine laid_spec (rs := us) (belowX B2 F4) (X2.keeps F4.keep) (T2.keeps F4.keep) hh ?_ ⟨_, (N4 _ (.tail _ (.tail _ (List.mem_append_right _ hG)))).1, rfl, _, rfl⟩ (by omega) hr fun D5 ts5 z5 h5 tk5 k5 hts5 hD5 hD5n => ?_
  · show A.depth + 1 + 3 < recursionLimit; omega
  have F5 := F4.keeps k5
  have N5 := N4.grown k5
  clear F4
  repeat' (first | ((with_reducible show wpAny _ _ (compareOp CmpOp.NotEq (Value.ref _) (Value.ref _)) _ _ _); refine Hold.it ?_) | ((with_reducible show wpAny _ _ (call (Value.builtin "sorted") _ _) _ _ _); refine Hold.it ?_) | walk_at "m1")
  refine ⟨?_⟩
  have hasc : ∀ x ∈ laidF (us.map (·.1)), Asc x := fun x hx => (hr x ((mem_laid _ _ _ hx).resolve_left (fun h => nomatch h))).1
  refine ne_dataH (strs_reads (N5.get (.head _))) (strs_reads hD5) (strs_shaped (by rw [hts]; exact hasc)) (strs_shaped (by rw [hts5]; exact hasc)) ?_ ?_
  · show A.units + 3 + 64 < cLine; omega
  rw [hts, hts5, strs_eqv]
  repeat' (first | ((with_reducible show wpAny _ _ (compareOp CmpOp.NotEq (Value.ref _) (Value.ref _)) _ _ _); refine Hold.it ?_) | ((with_reducible show wpAny _ _ (call (Value.builtin "sorted") _ _) _ _ _); refine Hold.it ?_) | walk_at "m1")
  exact ⟨rfl, h5, tk5, cC, rfl, F5, fun p hp => N5 p (by
    rcases List.mem_cons.mp hp with rfl | hp
    · exact .tail _ (.head _)
    · exact .tail _ (.tail _ (List.mem_append_right _ hp)))⟩
end law_b14
theorem law_b14 {w : World} {A : Around} {E : Value → Shared → Prop} {s : Shared} {base : Heap} {mg : Str → Option Value} {mb : Str → Option Value} {mean : ExcName → Option Value} {Q : Value → Shared → Prop} {outer : List Env} {g : Heap} {l : Addr} {L' : Addr} {D : Addr} {T : Addr} {W : Addr} {LO : Addr} {SH : Addr} {SP : Addr} {TU : Addr} {GO : Addr} {us : List (Str × Tok)} {z : Nat} {news : List (Addr × Obj)} {body : List Stmt} {scope : Scope} {qual : Str} {cdv : Value}
   (hdef : LawDef w body scope qual cdv) (G : Gr w A base outer mean mg mb g) (hh : A.handled = none) (hd : A.depth + 20 < recursionLimit) (hu : A.units + 400 < cLine) (F : Fr g L' s.heap (lawMap l { row := some (.ref D), things := some (.ref T), writings := some (.ref W), longs := some (.ref LO), shorts := some (.ref SH), spoiled := some (.ref SP), turned := some (.ref TU), good := some (.ref GO) })) (N : News g L' s.heap news) (hg : g.get? 60 = none) (hL' : L' ≠ 60) (hne : ∀ p ∈ news, p.1 ≠ 60) (tab : s.heap.get? 60 = some (tabObj #[])) (hG : (GO, lobj (strValues us) z) ∈ news) (hr : ∀ r ∈ us.map (·.1), Asc r ∧ r.length ≤ 500 ∧ ∃ n, parseF r = .ok n) (h2 : 2 ≤ us.length) (h64 : us.length < 64) : wpAny (model PROG w) (A.deeper (envOfC qual scope L' 188 cdv)) (execs ((body.drop 14).take 1) (envOfC qual scope L' 188 cdv))
    (fun f s' => Hold (f = .next ∧ ∃ h tk cC, s' = { s with heap := h, toks := tk } ∧ Fr g L' h (lawMap l { row := some (.ref D), things := some (.ref T), writings := some (.ref W), longs := some (.ref LO), shorts := some (.ref SH), spoiled := some (.ref SP), turned := some (.ref TU), good := some (.ref GO) }) ∧ News g L' h ((60, tabObj #[rawInt 28, rawInt 4, .ref cC]) :: news))) (fun _ _ => False) s :=
  (eps_at (G := fun q => law_b14.Stm q.1 q.2.1 q.2.2.1 q.2.2.2.1 q.2.2.2.2.1 q.2.2.2.2.2.1 q.2.2.2.2.2.2.1 q.2.2.2.2.2.2.2.1 q.2.2.2.2.2.2.2.2.1 q.2.2.2.2.2.2.2.2.2.1 q.2.2.2.2.2.2.2.2.2.2.1 q.2.2.2.2.2.2.2.2.2.2.2.1 q.2.2.2.2.2.2.2.2.2.2.2.2.1 q.2.2.2.2.2.2.2.2.2.2.2.2.2.1 q.2.2.2.2.2.2.2.2.2.2.2.2.2.2.1 q.2.2.2.2.2.2.2.2.2.2.2.2.2.2.2.1 q.2.2.2.2.2.2.2.2.2.2.2.2.2.2.2.2.1 q.2.2.2.2.2.2.2.2.2.2.2.2.2.2.2.2.2.1 q.2.2.2.2.2.2.2.2.2.2.2.2.2.2.2.2.2.2.1 q.2.2.2.2.2.2.2.2.2.2.2.2.2.2.2.2.2.2.2.1 q.2.2.2.2.2.2.2.2.2.2.2.2.2.2.2.2.2.2.2.2.1 q.2.2.2.2.2.2.2.2.2.2.2.2.2.2.2.2.2.2.2.2.2.1 q.2.2.2.2.2.2.2.2.2.2.2.2.2.2.2.2.2.2.2.2.2.2.1 q.2.2.2.2.2.2.2.2.2.2.2.2.2.2.2.2.2.2.2.2.2.2.2) (c := law_b14.cst) rfl law_b14.it (w, A, E, s, base, mg, mb, mean, Q, outer, g, l, L', D, T, W, LO, SH, SP, TU, GO, us, z, news) : law_b14.Stm w A E s base mg mb mean Q outer g l L' D T W LO SH SP TU GO us z news) body scope qual cdv hdef G hh hd hu F N hg hL' hne tab hG hr h2 h64
end Mine
end

section
namespace Mine
set_option maxRecDepth 100000
set_option maxHeartbeats 1000000
set_option linter.all false
noncomputable def PairsBy (hs : Str) (ex : List (Addr × Obj)) (vs : List Value) (xs : List Int) : Prop := ∀ h : Heap, (∀ p ∈ ex, h.get? p.1 = some p.2) → PVs h hs vs xs
theorem PairsBy.snoc {hs : Str} {ex : List (Addr × Obj)} {vs : List Value} {xs : List Int} (P : PairsBy hs ex vs xs) (a : Addr) (th : Tok) (n : Int) (tn : Tok) : PairsBy hs ((a, pairObj hs th n tn) :: ex) (vs ++ [.ref a]) (xs ++ [n]) := fun h hk =>
  (P h fun p hp => hk p (.tail _ hp)).append (.cons ⟨a, th, tn, rfl, hk _ (.head _)⟩ .nil)
noncomputable def law_b15.Stm (w : World) (A : Around) (E : Value → Shared → Prop) (s : Shared) (base : Heap) (mg : Str → Option Value) (mb : Str → Option Value) (mean : ExcName → Option Value) (Q : Value → Shared → Prop) (outer : List Env) (g : Heap) (l : Addr) (L' : Addr) (D : Addr) (T : Addr) (W : Addr) (LO : Addr) (SH : Addr) (SP : Addr) (TU : Addr) (GO : Addr) (pa : Addr) (us : List (Str × Tok)) (z : Nat) (hs : Str) (th : Tok) (t21 : Tok) (news : List (Addr × Obj)) : Prop := ∀ (body : List Stmt) (scope : Scope) (qual : Str) (cdv : Value) (hdef : LawDef w body scope qual cdv) (G : Gr w A base outer mean mg mb g) (hh : A.handled = none) (hd : A.depth + 10 < recursionLimit) (hu : A.units + 300 < cLine) (F : Fr g L' s.heap (lawMap l { row := some (.ref D), things := some (.ref T), writings := some (.ref W), longs := some (.ref LO), shorts := some (.ref SH), spoiled := some (.ref SP), turned := some (.ref TU), good := some (.ref GO) })) (N : News g L' s.heap news) (hG : (GO, lobj (strValues us) z) ∈ news) (hn : us.length ≤ 100) (ha : ∀ r ∈ us.map (·.1), Asc r ∧ r.length ≤ 500) (hok : ∀ q ∈ us, okR q = true) (H : HostAt L' news hs th pa t21), wpAny (model PROG w) (A.deeper (envOfC qual scope L' 188 cdv)) (execs ((body.drop 15).take 1) (envOfC qual scope L' 188 cdv))
    (fun f s' => Hold (f = .next ∧ ∃ h tk J ex vs, s' = { s with heap := h, toks := tk } ∧ Fr g L' h (lawMap l { row := some (.ref D), things := some (.ref T), writings := some (.ref W), longs := some (.ref LO), shorts := some (.ref SH), spoiled := some (.ref SP), turned := some (.ref TU), good := some (.ref GO), whole := some (.ref J) }) ∧ News g L' h ((J, LCg.lst vs) :: (ex ++ news)) ∧ PairsBy hs ex vs (us.map fun q => portF q.1))) (fun _ _ => False) s
noncomputable def law_b15.cst : (World) × (Around) × (Value → Shared → Prop) × (Shared) × (Heap) × (Str → Option Value) × (Str → Option Value) × (ExcName → Option Value) × (Value → Shared → Prop) × (List Env) × (Heap) × (Addr) × (Addr) × (Addr) × (Addr) × (Addr) × (Addr) × (Addr) × (Addr) × (Addr) × (Addr) × (Addr) × (List (Str × Tok)) × (Nat) × (Str) × (Tok) × (Tok) × (List (Addr × Obj)) := eps (aWorld 0, {}, fun _ _ => True, {}, {}, fun _ => none, fun _ => none, fun _ => none, fun _ _ => True, [], {}, 0, 0, 0, 0, 0, 0, 0, 0, 0, 0, 0, [], 0, Str.empty, 0, 0, []) (fun q => law_b15.Stm q.1 q.2.1 q.2.2.1 q.2.2.2.1 q.2.2.2.2.1 q.2.2.2.2.2.1 q.2.2.2.2.2.2.1 q.2.2.2.2.2.2.2.1 q.2.2.2.2.2.2.2.2.1 q.2.2.2.2.2.2.2.2.2.1 q.2.2.2.2.2.2.2.2.2.2.1 q.2.2.2.2.2.2.2.2.2.2.2.1 q.2.2.2.2.2.2.2.2.2.2.2.2.1 q.2.2.2.2.2.2.2.2.2.2.2.2.2.1 q.2.2.2.2.2.2.2.2.2.2.2.2.2.2.1 q.2.2.2.2.2.2.2.2.2.2.2.2.2.2.2.1 q.2.2.2.2.2.2.2.2.2.2.2.2.2.2.2.2.1 q.2.2.2.2.2.2.2.2.2.2.2.2.2.2.2.2.2.1 q.2.2.2.2.2.2.2.2.2.2.2.2.2.2.2.2.2.2.1 q.2.2.2.2.2.2.2.2.2.2.2.2.2.2.2.2.2.2.2.1 q.2.2.2.2.2.2.2.2.2.2.2.2.2.2.2.2.2.2.2.2.1 q.2.2.2.2.2.2.2.2.2.2.2.2.2.2.2.2.2.2.2.2.2.1 q.2.2.2.2.2.2.2.2.2.2.2.2.2.2.2.2.2.2.2.2.2.2.1 q.2.2.2.2.2.2.2.2.2.2.2.2.2.2.2.2.2.2.2.2.2.2.2.1 q.2.2.2.2.2.2.2.2.2.2.2.2.2.2.2.2.2.2.2.2.2.2.2.2.1 q.2.2.2.2.2.2.2.2.2.2.2.2.2.2.2.2.2.2.2.2.2.2.2.2.2.1 q.2.2.2.2.2.2.2.2.2.2.2.2.2.2.2.2.2.2.2.2.2.2.2.2.2.2.1 q.2.2.2.2.2.2.2.2.2.2.2.2.2.2.2.2.2.2.2.2.2.2.2.2.2.2.2)
namespace law_b15
noncomputable def A : Around := cst.2.1
noncomputable def s : Shared := cst.2.2.2.1
noncomputable def g : Heap := cst.2.2.2.2.2.2.2.2.2.2.1
noncomputable def L' : Addr := cst.2.2.2.2.2.2.2.2.2.2.2.2.1
noncomputable def GO : Addr := cst.2.2.2.2.2.2.2.2.2.2.2.2.2.2.2.2.2.2.2.2.1
noncomputable def us : List (Str × Tok) := cst.2.2.2.2.2.2.2.2.2.2.2.2.2.2.2.2.2.2.2.2.2.2.1
noncomputable def hs : Str := cst.2.2.2.2.2.2.2.2.2.2.2.2.2.2.2.2.2.2.2.2.2.2.2.2.1
noncomputable def th : Tok := cst.2.2.2.2.2.2.2.2.2.2.2.2.2.2.2.2.2.2.2.2.2.2.2.2.2.1
noncomputable def t21 : Tok := cst.2.2.2.2.2.2.2.2.2.2.2.2.2.2.2.2.2.2.2.2.2.2.2.2.2.2.1
noncomputable def news : List (Addr × Obj) := cst.2.2.2.2.2.2.2.2.2.2.2.2.2.2.2.2.2.2.2.2.2.2.2.2.2.2.2
theorem it : Stm cst.1 A cst.2.2.1 s cst.2.2.2.2.1 cst.2.2.2.2.2.1 cst.2.2.2.2.2.2.1 cst.2.2.2.2.2.2.2.1 cst.2.2.2.2.2.2.2.2.1 cst.2.2.2.2.2.2.2.2.2.1 g cst.2.2.2.2.2.2.2.2.2.2.2.1 L' cst.2.2.2.2.2.2.2.2.2.2.2.2.2.1 cst.2.2.2.2.2.2.2.2.2.2.2.2.2.2.1 cst.2.2.2.2.2.2.2.2.2.2.2.2.2.2.2.1 cst.2.2.2.2.2.2.2.2.2.2.2.2.2.2.2.2.1 cst.2.2.2.2.2.2.2.2.2.2.2.2.2.2.2.2.2.1 cst.2.2.2.2.2.2.2.2.2.2.2.2.2.2.2.2.2.2.1 cst.2.2.2.2.2.2.2.2.2.2.2.2.2.2.2.2.2.2.2.1 GO cst.2.2.2.2.2.2.2.2.2.2.2.2.2.2.2.2.2.2.2.2.2.1 us cst.2.2.2.2.2.2.2.2.2.2.2.2.2.2.2.2.2.2.2.2.2.2.2.1 hs th t21 news := by
  intro body scope qual cdv hdef G hh hd hu F N hG hn ha hok H
  have hfill : (fun (_ : OpenLaw) (_ : Params → Frag) => True) PySem.Challenge.rw_nq0040_01 Mine.KC := by (k_fill; trivial)
  clear hfill
  w_top off
  obtain ⟨oc, od, name, params, dV, kV, doc, pm, an, ct, osl, hlk⟩ := hdef
  k_dflt (refine' lit_def ?li hlk ?_; (case li => k_is); k_whole)
  rintro rfl rfl rfl rfl
  dsimp only [List.drop, List.take]
  obtain ⟨B2, X2, T2, D2⟩ := G
  obtain ⟨oh, op, zt, hmh, hmp, hdh, hdp, htu⟩ := H
  repeat' (first | ((with_reducible show wpAny _ _ (eval (PySem.Expr.Name _ _) _) _ _ _); (with_reducible first | show wpAny _ _ (eval (Expr.Name (Str.ofString "host") _) (compEnvC _ _ _ _)) _ _ _ | show wpAny _ _ (eval (Expr.Name (Str.ofString "peer") _) (compEnvC _ _ _ _)) _ _ _); refine Hold.it ?_) | ((with_reducible show wpAny _ _ (exec (PySem.Stmt.Assign (_ :: _) (PySem.Expr.ListComp _ _ _ _) _) _) _ _ _); refine Hold.it ?_) | walk_at "m1")
  refine ⟨?_⟩
  refine' assign_list (h₀ := g) (L := L') F rfl ?aa ?ab ?ac ?ad ?ae ?af ?ag ?ah ?ai ?aj
  case aa => with_unfolding_all rfl
  case ab => with_unfolding_all rfl
  case ac => decide
  case ad => rfl
  case ae => decide
  case af => rfl
  case ag => rfl
  case ah => rfl
  case aj => intro _; rfl
  case ai =>
    repeat' (first | ((with_reducible show wpAny _ _ (eval (PySem.Expr.Name _ _) _) _ _ _); (with_reducible first | show wpAny _ _ (eval (Expr.Name (Str.ofString "host") _) (compEnvC _ _ _ _)) _ _ _ | show wpAny _ _ (eval (Expr.Name (Str.ofString "peer") _) (compEnvC _ _ _ _)) _ _ _); refine Hold.it ?_) | ((with_reducible show wpAny _ _ (exec (PySem.Stmt.Assign (_ :: _) (PySem.Expr.ListComp _ _ _ _) _) _) _ _ _); refine Hold.it ?_) | walk_at "m1")
    refine ⟨GO, (strValues us).toArray, news, rfl, hh, F, N, .inr ⟨_, hG, rfl, _, rfl⟩, ?sz, fun g5 => rest_genU (fun i ys nw => ∃ ex, nw = ex ++ news ∧ PairsBy hs ex ys ((us.take i).map fun q => portF q.1)) ?hS ⟨[], rfl, fun _ _ => .nil⟩ ?tu ?fi⟩
    case sz => simp [strValues]; omega
    case hS => rintro _ _ _ ⟨ex, rfl, _⟩; exact .inr ⟨_, List.mem_append_right _ hG, rfl, _, rfl⟩
    case tu =>
      rintro i v I oI C oC D6 ys nw m₂ h6 tk6 hi ⟨ex, rfl, hP⟩ hv hC hm F6 N6 off
      obtain ⟨q, hq, rfl⟩ : ∃ q, us[i]? = some q ∧ Value.str q.1 q.2 = v := by simpa [strValues] using hv
      obtain ⟨x, tx⟩ := q
      have hax := ha x (List.mem_map.mpr ⟨_, List.mem_of_getElem? hq, rfl⟩)
      obtain ⟨n, hpx⟩ : ∃ n, parseF x = .ok n := by
        have := hok _ (List.mem_of_getElem? hq)
        unfold okR at this
        dsimp only at this
        rw [read_law hax.1 hax.2] at this
        cases q : parseF x <;> rw [q] at this <;> simp at this
        exact ⟨_, rfl⟩
      have hpt : portF x = n := by unfold portF; rw [hpx]
      rw [List.take_add_one, hq, List.map_append]
      clear F N
      repeat' (first | ((with_reducible show wpAny _ _ (eval (PySem.Expr.Name _ _) _) _ _ _); (with_reducible first | show wpAny _ _ (eval (Expr.Name (Str.ofString "host") _) (compEnvC _ _ _ _)) _ _ _ | show wpAny _ _ (eval (Expr.Name (Str.ofString "peer") _) (compEnvC _ _ _ _)) _ _ _); refine Hold.it ?_) | ((with_reducible show wpAny _ _ (exec (PySem.Stmt.Assign (_ :: _) (PySem.Expr.ListComp _ _ _ _) _) _) _ _ _); refine Hold.it ?_) | walk_at "m1")
      refine ⟨?_⟩
      refine' lcf_cell (c := L' + 1 + 1) N6 ?la (.tail _ (.tail _ (.tail _ (List.mem_append_right _ hmp)))) hdp ?_ ?lb ?lc
      case la => rfl
      case lb => rfl
      case lc => rfl
      repeat' (first | ((with_reducible show wpAny _ _ (eval (PySem.Expr.Name _ _) _) _ _ _); (with_reducible first | show wpAny _ _ (eval (Expr.Name (Str.ofString "host") _) (compEnvC _ _ _ _)) _ _ _ | show wpAny _ _ (eval (Expr.Name (Str.ofString "peer") _) (compEnvC _ _ _ _)) _ _ _); refine Hold.it ?_) | ((with_reducible show wpAny _ _ (exec (PySem.Stmt.Assign (_ :: _) (PySem.Expr.ListComp _ _ _ _) _) _) _ _ _); refine Hold.it ?_) | walk_at "m1")
      refine parse_ok2 (hs := hs) (th := th) (pv := .int 21 t21) (belowX B2 F6) (X2.keeps F6.keep) (T2.keeps F6.keep) hh ?_ hax.2 hpx ⟨_, (N6 _ (.tail _ (.tail _ (.tail _ (List.mem_append_right _ htu))))).1, rfl, _, rfl⟩ fun a tn h7 tk7 k7 ha0 ha1 => ?_
      · show A.depth + 1 + 1 < recursionLimit; omega
      have F7 := F6.keeps k7
      refine ⟨h7, _, [(a, pairObj hs th n tn)], rfl, k7, ?_, (a, pairObj hs th n tn) :: ex, rfl, ?_⟩
      · intro p hp
        rw [List.mem_singleton.mp hp]
        exact ⟨ha0, ha1⟩
      · have := hP.snoc a th n tn
        simpa [hpt] using this
    case fi =>
      rintro ys nw ⟨ex, rfl, hP⟩
      unfold LCg.FinA
      intro D3 h3 tk3 F3 N3 _
      rw [List.take_of_length_le (by simp [strValues])] at hP
      repeat' (first | ((with_reducible show wpAny _ _ (eval (PySem.Expr.Name _ _) _) _ _ _); (with_reducible first | show wpAny _ _ (eval (Expr.Name (Str.ofString "host") _) (compEnvC _ _ _ _)) _ _ _ | show wpAny _ _ (eval (Expr.Name (Str.ofString "peer") _) (compEnvC _ _ _ _)) _ _ _); refine Hold.it ?_) | ((with_reducible show wpAny _ _ (exec (PySem.Stmt.Assign (_ :: _) (PySem.Expr.ListComp _ _ _ _) _) _) _ _ _); refine Hold.it ?_) | walk_at "m1")
      refine ⟨rfl, h3, _, D3, ex, ys, rfl, Fr.as F3 ?fr, N3, hP⟩
      case fr => (funext zz; by_cases hz0 : zz = PySem.Str.ofString "kept"; (focus (subst hz0; rfl)); by_cases hz1 : zz = PySem.Str.ofString "whole"; (focus (subst hz1; rfl)); by_cases hz2 : zz = PySem.Str.ofString "good"; (focus (subst hz2; rfl)); by_cases hz3 : zz = PySem.Str.ofString "turned"; (focus (subst hz3; rfl)); by_cases hz4 : zz = PySem.Str.ofString "spoiled"; (focus (subst hz4; rfl)); by_cases hz5 : zz = PySem.Str.ofString "shorts"; (focus (subst hz5; rfl)); by_cases hz6 : zz = PySem.Str.ofString "longs"; (focus (subst hz6; rfl)); by_cases hz7 : zz = PySem.Str.ofString "writings"; (focus (subst hz7; rfl)); by_cases hz8 : zz = PySem.Str.ofString "things"; (focus (subst hz8; rfl)); by_cases hz9 : zz = PySem.Str.ofString "row"; (focus (subst hz9; rfl)); by_cases hz10 : zz = PySem.Str.ofString "script"; (focus (subst hz10; rfl)); (try dsimp only); (try simp only [if_neg hz0]); (try simp only [if_neg hz1]); (try simp only [if_neg hz2]); (try simp only [if_neg hz3]); (try simp only [if_neg hz4]); (try simp only [if_neg hz5]); (try simp only [if_neg hz6]); (try simp only [if_neg hz7]); (try simp only [if_neg hz8]); (try simp only [if_neg hz9]); (try simp only [if_neg hz10]); (try rfl))
end law_b15
theorem law_b15 {w : World} {A : Around} {E : Value → Shared → Prop} {s : Shared} {base : Heap} {mg : Str → Option Value} {mb : Str → Option Value} {mean : ExcName → Option Value} {Q : Value → Shared → Prop} {outer : List Env} {g : Heap} {l : Addr} {L' : Addr} {D : Addr} {T : Addr} {W : Addr} {LO : Addr} {SH : Addr} {SP : Addr} {TU : Addr} {GO : Addr} {pa : Addr} {us : List (Str × Tok)} {z : Nat} {hs : Str} {th : Tok} {t21 : Tok} {news : List (Addr × Obj)} {body : List Stmt} {scope : Scope} {qual : Str} {cdv : Value}
   (hdef : LawDef w body scope qual cdv) (G : Gr w A base outer mean mg mb g) (hh : A.handled = none) (hd : A.depth + 10 < recursionLimit) (hu : A.units + 300 < cLine) (F : Fr g L' s.heap (lawMap l { row := some (.ref D), things := some (.ref T), writings := some (.ref W), longs := some (.ref LO), shorts := some (.ref SH), spoiled := some (.ref SP), turned := some (.ref TU), good := some (.ref GO) })) (N : News g L' s.heap news) (hG : (GO, lobj (strValues us) z) ∈ news) (hn : us.length ≤ 100) (ha : ∀ r ∈ us.map (·.1), Asc r ∧ r.length ≤ 500) (hok : ∀ q ∈ us, okR q = true) (H : HostAt L' news hs th pa t21) : wpAny (model PROG w) (A.deeper (envOfC qual scope L' 188 cdv)) (execs ((body.drop 15).take 1) (envOfC qual scope L' 188 cdv))
    (fun f s' => Hold (f = .next ∧ ∃ h tk J ex vs, s' = { s with heap := h, toks := tk } ∧ Fr g L' h (lawMap l { row := some (.ref D), things := some (.ref T), writings := some (.ref W), longs := some (.ref LO), shorts := some (.ref SH), spoiled := some (.ref SP), turned := some (.ref TU), good := some (.ref GO), whole := some (.ref J) }) ∧ News g L' h ((J, LCg.lst vs) :: (ex ++ news)) ∧ PairsBy hs ex vs (us.map fun q => portF q.1))) (fun _ _ => False) s :=
  (eps_at (G := fun q => law_b15.Stm q.1 q.2.1 q.2.2.1 q.2.2.2.1 q.2.2.2.2.1 q.2.2.2.2.2.1 q.2.2.2.2.2.2.1 q.2.2.2.2.2.2.2.1 q.2.2.2.2.2.2.2.2.1 q.2.2.2.2.2.2.2.2.2.1 q.2.2.2.2.2.2.2.2.2.2.1 q.2.2.2.2.2.2.2.2.2.2.2.1 q.2.2.2.2.2.2.2.2.2.2.2.2.1 q.2.2.2.2.2.2.2.2.2.2.2.2.2.1 q.2.2.2.2.2.2.2.2.2.2.2.2.2.2.1 q.2.2.2.2.2.2.2.2.2.2.2.2.2.2.2.1 q.2.2.2.2.2.2.2.2.2.2.2.2.2.2.2.2.1 q.2.2.2.2.2.2.2.2.2.2.2.2.2.2.2.2.2.1 q.2.2.2.2.2.2.2.2.2.2.2.2.2.2.2.2.2.2.1 q.2.2.2.2.2.2.2.2.2.2.2.2.2.2.2.2.2.2.2.1 q.2.2.2.2.2.2.2.2.2.2.2.2.2.2.2.2.2.2.2.2.1 q.2.2.2.2.2.2.2.2.2.2.2.2.2.2.2.2.2.2.2.2.2.1 q.2.2.2.2.2.2.2.2.2.2.2.2.2.2.2.2.2.2.2.2.2.2.1 q.2.2.2.2.2.2.2.2.2.2.2.2.2.2.2.2.2.2.2.2.2.2.2.1 q.2.2.2.2.2.2.2.2.2.2.2.2.2.2.2.2.2.2.2.2.2.2.2.2.1 q.2.2.2.2.2.2.2.2.2.2.2.2.2.2.2.2.2.2.2.2.2.2.2.2.2.1 q.2.2.2.2.2.2.2.2.2.2.2.2.2.2.2.2.2.2.2.2.2.2.2.2.2.2.1 q.2.2.2.2.2.2.2.2.2.2.2.2.2.2.2.2.2.2.2.2.2.2.2.2.2.2.2) (c := law_b15.cst) rfl law_b15.it (w, A, E, s, base, mg, mb, mean, Q, outer, g, l, L', D, T, W, LO, SH, SP, TU, GO, pa, us, z, hs, th, t21, news) : law_b15.Stm w A E s base mg mb mean Q outer g l L' D T W LO SH SP TU GO pa us z hs th t21 news) body scope qual cdv hdef G hh hd hu F N hG hn ha hok H
end Mine
end

section
namespace Mine
set_option maxRecDepth 100000
set_option maxHeartbeats 1000000
set_option linter.all false
theorem fin16 {g h7 : Heap} {L' J l' dT D3 : Addr} {ol o3 : Obj} {hs : Str} {th tn : Tok} {n : Int} {ys : List Value} {xs : List Int} {ex news : List (Addr × Obj)}
   (N7 : News g L' h7 ((J, lobj (ys ++ [.ref dT]) 0) :: (l', ol) :: (dT, pairObj hs th n tn) :: (D3, o3) :: (ex ++ news))) (hP : PairsBy hs ex ys xs) :
   ∃ ex2 xs2, News g L' h7 ((J, lobj (ys ++ [.ref dT]) 0) :: (ex2 ++ news)) ∧ PairsBy hs ex2 (ys ++ [.ref dT]) xs2 := by
  refine ⟨(dT, pairObj hs th n tn) :: ex, _, fun p hp => N7 p ?_, hP.snoc dT th n tn⟩
  rcases List.mem_cons.mp hp with rfl | hp
  · exact .head _
  rcases List.mem_cons.mp hp with rfl | hp
  · exact .tail _ (.tail _ (.head _))
  · exact .tail _ (.tail _ (.tail _ (.tail _ hp)))
noncomputable def law_b16.Stm (w : World) (A : Around) (E : Value → Shared → Prop) (s : Shared) (base : Heap) (mg : Str → Option Value) (mb : Str → Option Value) (mean : ExcName → Option Value) (Q : Value → Shared → Prop) (outer : List Env) (g : Heap) (l : Addr) (L' : Addr) (D : Addr) (T : Addr) (W : Addr) (LO : Addr) (SH : Addr) (SP : Addr) (TU : Addr) (GO : Addr) (WH : Addr) (pa : Addr) (rn : List Int) (ts : List (Str × Tok)) (z : Nat) (hs : Str) (th : Tok) (t21 : Tok) (news : List (Addr × Obj)) : Prop := ∀ (o : Obj) (body : List Stmt) (scope : Scope) (qual : Str) (cdv : Value) (hdef : LawDef w body scope qual cdv) (G : Gr w A base outer mean mg mb g) (hh : A.handled = none) (hd : A.depth + 10 < recursionLimit) (hu : A.units + 300 < cLine) (F : Fr g L' s.heap (lawMap l { row := some (.ref D), things := some (.ref T), writings := some (.ref W), longs := some (.ref LO), shorts := some (.ref SH), spoiled := some (.ref SP), turned := some (.ref TU), good := some (.ref GO), whole := some (.ref WH) })) (N : News g L' s.heap news) (hS : (SH, lobj (strValues ts) z) ∈ news) (hn : ts.length ≤ 100) (ha : ∀ r ∈ ts.map (·.1), Asc r ∧ r.length ≤ 500) (H : HostAt L' news hs th pa t21) (hm : (D, o) ∈ news) (hro : RowAt D o rn), wpAny (model PROG w) (A.deeper (envOfC qual scope L' 188 cdv)) (execs ((body.drop 16).take 1) (envOfC qual scope L' 188 cdv))
    (fun f s' => Hold (f = .next ∧ ∃ h tk J ex vs xs, s' = { s with heap := h, toks := tk } ∧ Fr g L' h (lawMap l { row := some (.ref D), things := some (.ref T), writings := some (.ref W), longs := some (.ref LO), shorts := some (.ref SH), spoiled := some (.ref SP), turned := some (.ref TU), good := some (.ref GO), whole := some (.ref WH), kept := some (.ref J) }) ∧ News g L' h ((J, lobj vs 0) :: (ex ++ news)) ∧ PairsBy hs ex vs xs ∧ vs.length ≤ ts.length + 1)) (fun _ _ => False) s
noncomputable def law_b16.cst : (World) × (Around) × (Value → Shared → Prop) × (Shared) × (Heap) × (Str → Option Value) × (Str → Option Value) × (ExcName → Option Value) × (Value → Shared → Prop) × (List Env) × (Heap) × (Addr) × (Addr) × (Addr) × (Addr) × (Addr) × (Addr) × (Addr) × (Addr) × (Addr) × (Addr) × (Addr) × (Addr) × (List Int) × (List (Str × Tok)) × (Nat) × (Str) × (Tok) × (Tok) × (List (Addr × Obj)) := eps (aWorld 0, {}, fun _ _ => True, {}, {}, fun _ => none, fun _ => none, fun _ => none, fun _ _ => True, [], {}, 0, 0, 0, 0, 0, 0, 0, 0, 0, 0, 0, 0, [], [], 0, Str.empty, 0, 0, []) (fun q => law_b16.Stm q.1 q.2.1 q.2.2.1 q.2.2.2.1 q.2.2.2.2.1 q.2.2.2.2.2.1 q.2.2.2.2.2.2.1 q.2.2.2.2.2.2.2.1 q.2.2.2.2.2.2.2.2.1 q.2.2.2.2.2.2.2.2.2.1 q.2.2.2.2.2.2.2.2.2.2.1 q.2.2.2.2.2.2.2.2.2.2.2.1 q.2.2.2.2.2.2.2.2.2.2.2.2.1 q.2.2.2.2.2.2.2.2.2.2.2.2.2.1 q.2.2.2.2.2.2.2.2.2.2.2.2.2.2.1 q.2.2.2.2.2.2.2.2.2.2.2.2.2.2.2.1 q.2.2.2.2.2.2.2.2.2.2.2.2.2.2.2.2.1 q.2.2.2.2.2.2.2.2.2.2.2.2.2.2.2.2.2.1 q.2.2.2.2.2.2.2.2.2.2.2.2.2.2.2.2.2.2.1 q.2.2.2.2.2.2.2.2.2.2.2.2.2.2.2.2.2.2.2.1 q.2.2.2.2.2.2.2.2.2.2.2.2.2.2.2.2.2.2.2.2.1 q.2.2.2.2.2.2.2.2.2.2.2.2.2.2.2.2.2.2.2.2.2.1 q.2.2.2.2.2.2.2.2.2.2.2.2.2.2.2.2.2.2.2.2.2.2.1 q.2.2.2.2.2.2.2.2.2.2.2.2.2.2.2.2.2.2.2.2.2.2.2.1 q.2.2.2.2.2.2.2.2.2.2.2.2.2.2.2.2.2.2.2.2.2.2.2.2.1 q.2.2.2.2.2.2.2.2.2.2.2.2.2.2.2.2.2.2.2.2.2.2.2.2.2.1 q.2.2.2.2.2.2.2.2.2.2.2.2.2.2.2.2.2.2.2.2.2.2.2.2.2.2.1 q.2.2.2.2.2.2.2.2.2.2.2.2.2.2.2.2.2.2.2.2.2.2.2.2.2.2.2.1 q.2.2.2.2.2.2.2.2.2.2.2.2.2.2.2.2.2.2.2.2.2.2.2.2.2.2.2.2.1 q.2.2.2.2.2.2.2.2.2.2.2.2.2.2.2.2.2.2.2.2.2.2.2.2.2.2.2.2.2)
namespace law_b16
noncomputable def A : Around := cst.2.1
noncomputable def s : Shared := cst.2.2.2.1
noncomputable def mb : Str → Option Value := cst.2.2.2.2.2.2.1
noncomputable def g : Heap := cst.2.2.2.2.2.2.2.2.2.2.1
noncomputable def L' : Addr := cst.2.2.2.2.2.2.2.2.2.2.2.2.1
noncomputable def SH : Addr := cst.2.2.2.2.2.2.2.2.2.2.2.2.2.2.2.2.2.1
noncomputable def rn : List Int := cst.2.2.2.2.2.2.2.2.2.2.2.2.2.2.2.2.2.2.2.2.2.2.2.1
noncomputable def ts : List (Str × Tok) := cst.2.2.2.2.2.2.2.2.2.2.2.2.2.2.2.2.2.2.2.2.2.2.2.2.1
noncomputable def z : Nat := cst.2.2.2.2.2.2.2.2.2.2.2.2.2.2.2.2.2.2.2.2.2.2.2.2.2.1
noncomputable def hs : Str := cst.2.2.2.2.2.2.2.2.2.2.2.2.2.2.2.2.2.2.2.2.2.2.2.2.2.2.1
noncomputable def th : Tok := cst.2.2.2.2.2.2.2.2.2.2.2.2.2.2.2.2.2.2.2.2.2.2.2.2.2.2.2.1
noncomputable def t21 : Tok := cst.2.2.2.2.2.2.2.2.2.2.2.2.2.2.2.2.2.2.2.2.2.2.2.2.2.2.2.2.1
noncomputable def news : List (Addr × Obj) := cst.2.2.2.2.2.2.2.2.2.2.2.2.2.2.2.2.2.2.2.2.2.2.2.2.2.2.2.2.2
theorem it : Stm cst.1 A cst.2.2.1 s cst.2.2.2.2.1 cst.2.2.2.2.2.1 mb cst.2.2.2.2.2.2.2.1 cst.2.2.2.2.2.2.2.2.1 cst.2.2.2.2.2.2.2.2.2.1 g cst.2.2.2.2.2.2.2.2.2.2.2.1 L' cst.2.2.2.2.2.2.2.2.2.2.2.2.2.1 cst.2.2.2.2.2.2.2.2.2.2.2.2.2.2.1 cst.2.2.2.2.2.2.2.2.2.2.2.2.2.2.2.1 cst.2.2.2.2.2.2.2.2.2.2.2.2.2.2.2.2.1 SH cst.2.2.2.2.2.2.2.2.2.2.2.2.2.2.2.2.2.2.1 cst.2.2.2.2.2.2.2.2.2.2.2.2.2.2.2.2.2.2.2.1 cst.2.2.2.2.2.2.2.2.2.2.2.2.2.2.2.2.2.2.2.2.1 cst.2.2.2.2.2.2.2.2.2.2.2.2.2.2.2.2.2.2.2.2.2.1 cst.2.2.2.2.2.2.2.2.2.2.2.2.2.2.2.2.2.2.2.2.2.2.1 rn ts z hs th t21 news := by
  intro o body scope qual cdv hdef G hh hd hu F N hS hn ha H hm hro
  have hfill : (fun (_ : OpenLaw) (_ : Params → Frag) => True) PySem.Challenge.rw_nq0040_01 Mine.KC := by (k_fill; trivial)
  clear hfill
  w_top off
  obtain ⟨oc, od, name, params, dV, kV, doc, pm, an, ct, osl, hlk⟩ := hdef
  k_dflt (refine' lit_def ?li hlk ?_; (case li => k_is); k_whole)
  rintro rfl rfl rfl rfl
  dsimp only [List.drop, List.take]
  obtain ⟨B2, X2, T2, D2⟩ := G
  obtain ⟨oh, op, zt, hmh, hmp, hdh, hdp, htu⟩ := H
  repeat' (first | ((with_reducible show wpAny _ _ (eval (PySem.Expr.Name _ _) _) _ _ _); (with_reducible first | show wpAny _ _ (eval (Expr.Name (Str.ofString "host") _) (compEnvC _ _ _ _)) _ _ _ | show wpAny _ _ (eval (Expr.Name (Str.ofString "peer") _) (compEnvC _ _ _ _)) _ _ _); refine Hold.it ?_) | ((with_reducible show wpAny _ _ (eval (PySem.Expr.Name _ _) _) _ _ _); name_kind "cell"; refine Hold.it ?_) | ((with_reducible show wpAny _ _ (call (Value.builtin "sum") _ _) _ _ _); refine Hold.it ?_) | ((with_reducible show wpAny _ _ (binaryOp Operator.Add (Value.ref _) (Value.ref _)) _ _ _); refine Hold.it ?_) | ((with_reducible show wpAny _ _ (eval (PySem.Expr.ListComp _ _ _ _) _) _ _ _); refine Hold.it ?_) | walk_at "m1")
  refine ⟨?_⟩
  refine' eval_listT (h₀ := g) (L := L') F ?ab ?ac ?ad ?ae ?af ?ai ?aj
  case ab => with_unfolding_all rfl
  case ac => decide
  case ad => rfl
  case ae => decide
  case af => rfl
  case aj => intro _; rfl
  case ai =>
    repeat' (first | ((with_reducible show wpAny _ _ (eval (PySem.Expr.Name _ _) _) _ _ _); (with_reducible first | show wpAny _ _ (eval (Expr.Name (Str.ofString "host") _) (compEnvC _ _ _ _)) _ _ _ | show wpAny _ _ (eval (Expr.Name (Str.ofString "peer") _) (compEnvC _ _ _ _)) _ _ _); refine Hold.it ?_) | ((with_reducible show wpAny _ _ (eval (PySem.Expr.Name _ _) _) _ _ _); name_kind "cell"; refine Hold.it ?_) | ((with_reducible show wpAny _ _ (call (Value.builtin "sum") _ _) _ _ _); refine Hold.it ?_) | ((with_reducible show wpAny _ _ (binaryOp Operator.Add (Value.ref _) (Value.ref _)) _ _ _); refine Hold.it ?_) | ((with_reducible show wpAny _ _ (eval (PySem.Expr.ListComp _ _ _ _) _) _ _ _); refine Hold.it ?_) | walk_at "m1")
    refine ⟨SH, (strValues ts).toArray, news, rfl, hh, F, N, .inr ⟨_, hS, rfl, _, rfl⟩, ?sz, fun g5 => rest_genT (fun i ys nw => ∃ ex, nw = ex ++ news ∧ PairsBy hs ex ys (((ts.take i).filter okR).map fun q => portF q.1)) ?hS ⟨[], rfl, fun _ _ => .nil⟩ ?tu ?fi⟩
    case sz => simp [strValues]; omega
    case hS => rintro _ _ _ ⟨ex, rfl, _⟩; exact .inr ⟨_, List.mem_append_right _ hS, rfl, _, rfl⟩
    case tu =>
      rintro i v I oI C oC D6 ys nw m₂ h6 tk6 hi ⟨ex, rfl, hP⟩ hv hC hm F6 N6 off
      obtain ⟨q, hq, rfl⟩ : ∃ q, ts[i]? = some q ∧ Value.str q.1 q.2 = v := by simpa [strValues] using hv
      obtain ⟨x, tx⟩ := q
      have hax := ha x (List.mem_map.mpr ⟨_, List.mem_of_getElem? hq, rfl⟩)
      rw [take_filter hq, List.map_append]
      clear F N
      repeat' (first | ((with_reducible show wpAny _ _ (eval (PySem.Expr.Name _ _) _) _ _ _); (with_reducible first | show wpAny _ _ (eval (Expr.Name (Str.ofString "host") _) (compEnvC _ _ _ _)) _ _ _ | show wpAny _ _ (eval (Expr.Name (Str.ofString "peer") _) (compEnvC _ _ _ _)) _ _ _); refine Hold.it ?_) | ((with_reducible show wpAny _ _ (eval (PySem.Expr.Name _ _) _) _ _ _); name_kind "cell"; refine Hold.it ?_) | ((with_reducible show wpAny _ _ (call (Value.builtin "sum") _ _) _ _ _); refine Hold.it ?_) | ((with_reducible show wpAny _ _ (binaryOp Operator.Add (Value.ref _) (Value.ref _)) _ _ _); refine Hold.it ?_) | ((with_reducible show wpAny _ _ (eval (PySem.Expr.ListComp _ _ _ _) _) _ _ _); refine Hold.it ?_) | walk_at "m1")
      refine ⟨?_⟩
      refine' lcf_cell (c := L' + 1) N6 ?la (.tail _ (.tail _ (.tail _ (List.mem_append_right _ hmh)))) hdh ?_ ?lb ?lc
      case la => rfl
      case lb => rfl
      case lc => rfl
      repeat' (first | ((with_reducible show wpAny _ _ (eval (PySem.Expr.Name _ _) _) _ _ _); (with_reducible first | show wpAny _ _ (eval (Expr.Name (Str.ofString "host") _) (compEnvC _ _ _ _)) _ _ _ | show wpAny _ _ (eval (Expr.Name (Str.ofString "peer") _) (compEnvC _ _ _ _)) _ _ _); refine Hold.it ?_) | ((with_reducible show wpAny _ _ (eval (PySem.Expr.Name _ _) _) _ _ _); name_kind "cell"; refine Hold.it ?_) | ((with_reducible show wpAny _ _ (call (Value.builtin "sum") _ _) _ _ _); refine Hold.it ?_) | ((with_reducible show wpAny _ _ (binaryOp Operator.Add (Value.ref _) (Value.ref _)) _ _ _); refine Hold.it ?_) | ((with_reducible show wpAny _ _ (eval (PySem.Expr.ListComp _ _ _ _) _) _ _ _); refine Hold.it ?_) | walk_at "m1")
      refine read_spec (belowX B2 F6) (X2.keeps F6.keep) (T2.keeps F6.keep) hh ?_ hax.2 hax.1 fun v h7 tk7 k7 hv7 => ?_
      · show A.depth + 1 + 2 < recursionLimit; omega
      have F7 := F6.keeps k7
      have N7 := N6.grown k7
      unfold ReadVal at hv7
      cases hrd : readF x <;> rw [hrd] at hv7 <;> dsimp only at hv7 ⊢
      case ok n =>
        have hpx : parseF x = .ok n := by rw [← read_law hax.1 hax.2]; exact hrd
        have hpt : portF x = n := portF_of hpx
        obtain ⟨a, tn, rfl, ha0, ha1⟩ := hv7
        have haL : a ≠ L' := fun q => by
          obtain ⟨oL, es, ep, hL, r⟩ := F6.ns
          rw [← q, ha0] at hL
          cases hL
        have hag : g.get? a = none := by
          cases q : g.get? a with
          | none => rfl
          | some o => rw [F6.keep _ _ q] at ha0; cases ha0
        have N8 : News g L' h7 ((a, pairObj hs th n tn) :: (I, oI) :: (C, oC) :: (D6, LCg.lst ys) :: (ex ++ news)) := fun p hp => by
          rcases List.mem_cons.mp hp with rfl | hp
          · exact ⟨ha1, haL, hag⟩
          · exact N7 p hp
        clear N7 F6 N6
        repeat' (first | ((with_reducible show wpAny _ _ (eval (PySem.Expr.Name _ _) _) _ _ _); (with_reducible first | show wpAny _ _ (eval (Expr.Name (Str.ofString "host") _) (compEnvC _ _ _ _)) _ _ _ | show wpAny _ _ (eval (Expr.Name (Str.ofString "peer") _) (compEnvC _ _ _ _)) _ _ _); refine Hold.it ?_) | ((with_reducible show wpAny _ _ (eval (PySem.Expr.Name _ _) _) _ _ _); name_kind "cell"; refine Hold.it ?_) | ((with_reducible show wpAny _ _ (call (Value.builtin "sum") _ _) _ _ _); refine Hold.it ?_) | ((with_reducible show wpAny _ _ (binaryOp Operator.Add (Value.ref _) (Value.ref _)) _ _ _); refine Hold.it ?_) | ((with_reducible show wpAny _ _ (eval (PySem.Expr.ListComp _ _ _ _) _) _ _ _); refine Hold.it ?_) | walk_at "m1")
        refine ⟨?_⟩
        rw [if_pos rfl]
        repeat' (first | ((with_reducible show wpAny _ _ (eval (PySem.Expr.Name _ _) _) _ _ _); (with_reducible first | show wpAny _ _ (eval (Expr.Name (Str.ofString "host") _) (compEnvC _ _ _ _)) _ _ _ | show wpAny _ _ (eval (Expr.Name (Str.ofString "peer") _) (compEnvC _ _ _ _)) _ _ _); refine Hold.it ?_) | ((with_reducible show wpAny _ _ (eval (PySem.Expr.Name _ _) _) _ _ _); name_kind "cell"; refine Hold.it ?_) | ((with_reducible show wpAny _ _ (call (Value.builtin "sum") _ _) _ _ _); refine Hold.it ?_) | ((with_reducible show wpAny _ _ (binaryOp Operator.Add (Value.ref _) (Value.ref _)) _ _ _); refine Hold.it ?_) | ((with_reducible show wpAny _ _ (eval (PySem.Expr.ListComp _ _ _ _) _) _ _ _); refine Hold.it ?_) | walk_at "m1")
        refine ⟨?_⟩
        refine' lcf_cell (c := L' + 1 + 1) N8 ?ma (.tail _ (.tail _ (.tail _ (.tail _ (List.mem_append_right _ hmp))))) hdp ?_ ?mb ?mc
        case ma => rfl
        case mb => rfl
        case mc => rfl
        repeat' (first | ((with_reducible show wpAny _ _ (eval (PySem.Expr.Name _ _) _) _ _ _); (with_reducible first | show wpAny _ _ (eval (Expr.Name (Str.ofString "host") _) (compEnvC _ _ _ _)) _ _ _ | show wpAny _ _ (eval (Expr.Name (Str.ofString "peer") _) (compEnvC _ _ _ _)) _ _ _); refine Hold.it ?_) | ((with_reducible show wpAny _ _ (eval (PySem.Expr.Name _ _) _) _ _ _); name_kind "cell"; refine Hold.it ?_) | ((with_reducible show wpAny _ _ (call (Value.builtin "sum") _ _) _ _ _); refine Hold.it ?_) | ((with_reducible show wpAny _ _ (binaryOp Operator.Add (Value.ref _) (Value.ref _)) _ _ _); refine Hold.it ?_) | ((with_reducible show wpAny _ _ (eval (PySem.Expr.ListComp _ _ _ _) _) _ _ _); refine Hold.it ?_) | walk_at "m1")
        refine parse_ok2 (hs := hs) (th := th) (pv := .int 21 t21) (belowX B2 F7) (X2.keeps F7.keep) (T2.keeps F7.keep) hh ?_ hax.2 hpx ⟨_, (N8 _ (.tail _ (.tail _ (.tail _ (.tail _ (List.mem_append_right _ htu)))))).1, rfl, _, rfl⟩ fun b tn2 h8 tk8 k8 hb0 hb1 => ?_
        · show A.depth + 1 + 1 < recursionLimit; omega
        have hb6 : h6.get? b = none := by
          cases q : h6.get? b with
          | none => rfl
          | some o => rw [k7 _ _ q] at hb0; cases hb0
        refine ⟨h8, _, [(b, pairObj hs th n tn2)], rfl, fun p o e => k8 _ _ (k7 _ _ e), ?_, (b, pairObj hs th n tn2) :: ex, rfl, ?_⟩
        · intro p hp
          rw [List.mem_singleton.mp hp]
          exact ⟨hb6, hb1⟩
        · have := hP.snoc b th n tn2
          simpa [hpt, okR, hrd] using this
      all_goals obtain ⟨tv, rfl⟩ := hv7
      all_goals clear F6 N6
      all_goals repeat' (first | ((with_reducible show wpAny _ _ (eval (PySem.Expr.Name _ _) _) _ _ _); (with_reducible first | show wpAny _ _ (eval (Expr.Name (Str.ofString "host") _) (compEnvC _ _ _ _)) _ _ _ | show wpAny _ _ (eval (Expr.Name (Str.ofString "peer") _) (compEnvC _ _ _ _)) _ _ _); refine Hold.it ?_) | ((with_reducible show wpAny _ _ (eval (PySem.Expr.Name _ _) _) _ _ _); name_kind "cell"; refine Hold.it ?_) | ((with_reducible show wpAny _ _ (call (Value.builtin "sum") _ _) _ _ _); refine Hold.it ?_) | ((with_reducible show wpAny _ _ (binaryOp Operator.Add (Value.ref _) (Value.ref _)) _ _ _); refine Hold.it ?_) | ((with_reducible show wpAny _ _ (eval (PySem.Expr.ListComp _ _ _ _) _) _ _ _); refine Hold.it ?_) | walk_at "m1")
      all_goals refine ⟨?_⟩
      all_goals rw [if_neg (by simp)]
      all_goals exact ⟨h7, _, rfl, k7, ex, rfl, by simpa [okR, hrd] using hP⟩
    case fi =>
      rintro ys nw ⟨ex, rfl, hP⟩
      unfold LCg.FinE
      intro D3 h3 tk3 F3 N3 _
      rw [List.take_of_length_le (by simp [strValues])] at hP
      have hlen : ys.length ≤ ts.length := by
        have z := (hP h3 fun p hp => (N3 p (.tail _ (List.mem_append_left _ hp))).1).length
        have z2 := List.length_filter_le okR ts
        rw [z, List.length_map]
        omega
      clear F N
      repeat' (first | ((with_reducible show wpAny _ _ (eval (PySem.Expr.Name _ _) _) _ _ _); (with_reducible first | show wpAny _ _ (eval (Expr.Name (Str.ofString "host") _) (compEnvC _ _ _ _)) _ _ _ | show wpAny _ _ (eval (Expr.Name (Str.ofString "peer") _) (compEnvC _ _ _ _)) _ _ _); refine Hold.it ?_) | ((with_reducible show wpAny _ _ (eval (PySem.Expr.Name _ _) _) _ _ _); name_kind "cell"; refine Hold.it ?_) | ((with_reducible show wpAny _ _ (call (Value.builtin "sum") _ _) _ _ _); refine Hold.it ?_) | ((with_reducible show wpAny _ _ (binaryOp Operator.Add (Value.ref _) (Value.ref _)) _ _ _); refine Hold.it ?_) | ((with_reducible show wpAny _ _ (eval (PySem.Expr.ListComp _ _ _ _) _) _ _ _); refine Hold.it ?_) | walk_at "m1")
      refine ⟨?_⟩
      refine' nameX_C (c := L' + 1) N3 ?na (.tail _ (List.mem_append_right _ hmh)) hdh ?_ ?nb ?nc
      case na => rfl
      case nb => rfl
      case nc => rfl
      repeat' (first | ((with_reducible show wpAny _ _ (eval (PySem.Expr.Name _ _) _) _ _ _); (with_reducible first | show wpAny _ _ (eval (Expr.Name (Str.ofString "host") _) (compEnvC _ _ _ _)) _ _ _ | show wpAny _ _ (eval (Expr.Name (Str.ofString "peer") _) (compEnvC _ _ _ _)) _ _ _); refine Hold.it ?_) | ((with_reducible show wpAny _ _ (eval (PySem.Expr.Name _ _) _) _ _ _); name_kind "cell"; refine Hold.it ?_) | ((with_reducible show wpAny _ _ (call (Value.builtin "sum") _ _) _ _ _); refine Hold.it ?_) | ((with_reducible show wpAny _ _ (binaryOp Operator.Add (Value.ref _) (Value.ref _)) _ _ _); refine Hold.it ?_) | ((with_reducible show wpAny _ _ (eval (PySem.Expr.ListComp _ _ _ _) _) _ _ _); refine Hold.it ?_) | walk_at "m1")
      refine ⟨?_⟩
      obtain ⟨rv, z0, rfl, hrv, hr1, hr2⟩ := hro
      refine LSm.sum_ints (vs := rv) F3 N3 hh ⟨_, (N3 _ (.tail _ (List.mem_append_right _ hm))).1, rfl, _, rfl⟩ hrv ?_
      intro h4 tk4 t4 F4 N4
      generalize rn.sum = su
      clear F3 N3
      repeat' (first | ((with_reducible show wpAny _ _ (eval (PySem.Expr.Name _ _) _) _ _ _); (with_reducible first | show wpAny _ _ (eval (Expr.Name (Str.ofString "host") _) (compEnvC _ _ _ _)) _ _ _ | show wpAny _ _ (eval (Expr.Name (Str.ofString "peer") _) (compEnvC _ _ _ _)) _ _ _); refine Hold.it ?_) | ((with_reducible show wpAny _ _ (eval (PySem.Expr.Name _ _) _) _ _ _); name_kind "cell"; refine Hold.it ?_) | ((with_reducible show wpAny _ _ (call (Value.builtin "sum") _ _) _ _ _); refine Hold.it ?_) | ((with_reducible show wpAny _ _ (binaryOp Operator.Add (Value.ref _) (Value.ref _)) _ _ _); refine Hold.it ?_) | ((with_reducible show wpAny _ _ (eval (PySem.Expr.ListComp _ _ _ _) _) _ _ _); refine Hold.it ?_) | walk_at "m1")
      refine ⟨?_⟩
      rename_i h5 F5 N5 l5
      refine' add_in (vs := ys) (ws := [.ref _]) F5 N5 (.tail _ (.tail _ (.head _))) (.head _) ?na ?nb ?_
      case na => omega
      case nb => simp
      intro J h6 F6 N6 l6
      repeat' (first | ((with_reducible show wpAny _ _ (eval (PySem.Expr.Name _ _) _) _ _ _); (with_reducible first | show wpAny _ _ (eval (Expr.Name (Str.ofString "host") _) (compEnvC _ _ _ _)) _ _ _ | show wpAny _ _ (eval (Expr.Name (Str.ofString "peer") _) (compEnvC _ _ _ _)) _ _ _); refine Hold.it ?_) | ((with_reducible show wpAny _ _ (eval (PySem.Expr.Name _ _) _) _ _ _); name_kind "cell"; refine Hold.it ?_) | ((with_reducible show wpAny _ _ (call (Value.builtin "sum") _ _) _ _ _); refine Hold.it ?_) | ((with_reducible show wpAny _ _ (binaryOp Operator.Add (Value.ref _) (Value.ref _)) _ _ _); refine Hold.it ?_) | ((with_reducible show wpAny _ _ (eval (PySem.Expr.ListComp _ _ _ _) _) _ _ _); refine Hold.it ?_) | walk_at "m1")
      rename_i h7 F7 N7
      obtain ⟨ex2, xs2, N8, P2⟩ := fin16 N7 hP
      refine ⟨rfl, h7, _, J, ex2, _, xs2, rfl, Fr.as F7 ?fr, N8, P2, ?le⟩
      case le => simp; omega
      case fr => (funext zz; by_cases hz0 : zz = PySem.Str.ofString "kept"; (focus (subst hz0; rfl)); by_cases hz1 : zz = PySem.Str.ofString "whole"; (focus (subst hz1; rfl)); by_cases hz2 : zz = PySem.Str.ofString "good"; (focus (subst hz2; rfl)); by_cases hz3 : zz = PySem.Str.ofString "turned"; (focus (subst hz3; rfl)); by_cases hz4 : zz = PySem.Str.ofString "spoiled"; (focus (subst hz4; rfl)); by_cases hz5 : zz = PySem.Str.ofString "shorts"; (focus (subst hz5; rfl)); by_cases hz6 : zz = PySem.Str.ofString "longs"; (focus (subst hz6; rfl)); by_cases hz7 : zz = PySem.Str.ofString "writings"; (focus (subst hz7; rfl)); by_cases hz8 : zz = PySem.Str.ofString "things"; (focus (subst hz8; rfl)); by_cases hz9 : zz = PySem.Str.ofString "row"; (focus (subst hz9; rfl)); by_cases hz10 : zz = PySem.Str.ofString "script"; (focus (subst hz10; rfl)); (try dsimp only); (try simp only [if_neg hz0]); (try simp only [if_neg hz1]); (try simp only [if_neg hz2]); (try simp only [if_neg hz3]); (try simp only [if_neg hz4]); (try simp only [if_neg hz5]); (try simp only [if_neg hz6]); (try simp only [if_neg hz7]); (try simp only [if_neg hz8]); (try simp only [if_neg hz9]); (try simp only [if_neg hz10]); (try rfl))
end law_b16
theorem law_b16 {w : World} {A : Around} {E : Value → Shared → Prop} {s : Shared} {base : Heap} {mg : Str → Option Value} {mb : Str → Option Value} {mean : ExcName → Option Value} {Q : Value → Shared → Prop} {outer : List Env} {g : Heap} {l : Addr} {L' : Addr} {D : Addr} {T : Addr} {W : Addr} {LO : Addr} {SH : Addr} {SP : Addr} {TU : Addr} {GO : Addr} {WH : Addr} {pa : Addr} {rn : List Int} {ts : List (Str × Tok)} {z : Nat} {hs : Str} {th : Tok} {t21 : Tok} {news : List (Addr × Obj)} {o : Obj} {body : List Stmt} {scope : Scope} {qual : Str} {cdv : Value}
   (hdef : LawDef w body scope qual cdv) (G : Gr w A base outer mean mg mb g) (hh : A.handled = none) (hd : A.depth + 10 < recursionLimit) (hu : A.units + 300 < cLine) (F : Fr g L' s.heap (lawMap l { row := some (.ref D), things := some (.ref T), writings := some (.ref W), longs := some (.ref LO), shorts := some (.ref SH), spoiled := some (.ref SP), turned := some (.ref TU), good := some (.ref GO), whole := some (.ref WH) })) (N : News g L' s.heap news) (hS : (SH, lobj (strValues ts) z) ∈ news) (hn : ts.length ≤ 100) (ha : ∀ r ∈ ts.map (·.1), Asc r ∧ r.length ≤ 500) (H : HostAt L' news hs th pa t21) (hm : (D, o) ∈ news) (hro : RowAt D o rn) : wpAny (model PROG w) (A.deeper (envOfC qual scope L' 188 cdv)) (execs ((body.drop 16).take 1) (envOfC qual scope L' 188 cdv))
    (fun f s' => Hold (f = .next ∧ ∃ h tk J ex vs xs, s' = { s with heap := h, toks := tk } ∧ Fr g L' h (lawMap l { row := some (.ref D), things := some (.ref T), writings := some (.ref W), longs := some (.ref LO), shorts := some (.ref SH), spoiled := some (.ref SP), turned := some (.ref TU), good := some (.ref GO), whole := some (.ref WH), kept := some (.ref J) }) ∧ News g L' h ((J, lobj vs 0) :: (ex ++ news)) ∧ PairsBy hs ex vs xs ∧ vs.length ≤ ts.length + 1)) (fun _ _ => False) s :=
  (eps_at (G := fun q => law_b16.Stm q.1 q.2.1 q.2.2.1 q.2.2.2.1 q.2.2.2.2.1 q.2.2.2.2.2.1 q.2.2.2.2.2.2.1 q.2.2.2.2.2.2.2.1 q.2.2.2.2.2.2.2.2.1 q.2.2.2.2.2.2.2.2.2.1 q.2.2.2.2.2.2.2.2.2.2.1 q.2.2.2.2.2.2.2.2.2.2.2.1 q.2.2.2.2.2.2.2.2.2.2.2.2.1 q.2.2.2.2.2.2.2.2.2.2.2.2.2.1 q.2.2.2.2.2.2.2.2.2.2.2.2.2.2.1 q.2.2.2.2.2.2.2.2.2.2.2.2.2.2.2.1 q.2.2.2.2.2.2.2.2.2.2.2.2.2.2.2.2.1 q.2.2.2.2.2.2.2.2.2.2.2.2.2.2.2.2.2.1 q.2.2.2.2.2.2.2.2.2.2.2.2.2.2.2.2.2.2.1 q.2.2.2.2.2.2.2.2.2.2.2.2.2.2.2.2.2.2.2.1 q.2.2.2.2.2.2.2.2.2.2.2.2.2.2.2.2.2.2.2.2.1 q.2.2.2.2.2.2.2.2.2.2.2.2.2.2.2.2.2.2.2.2.2.1 q.2.2.2.2.2.2.2.2.2.2.2.2.2.2.2.2.2.2.2.2.2.2.1 q.2.2.2.2.2.2.2.2.2.2.2.2.2.2.2.2.2.2.2.2.2.2.2.1 q.2.2.2.2.2.2.2.2.2.2.2.2.2.2.2.2.2.2.2.2.2.2.2.2.1 q.2.2.2.2.2.2.2.2.2.2.2.2.2.2.2.2.2.2.2.2.2.2.2.2.2.1 q.2.2.2.2.2.2.2.2.2.2.2.2.2.2.2.2.2.2.2.2.2.2.2.2.2.2.1 q.2.2.2.2.2.2.2.2.2.2.2.2.2.2.2.2.2.2.2.2.2.2.2.2.2.2.2.1 q.2.2.2.2.2.2.2.2.2.2.2.2.2.2.2.2.2.2.2.2.2.2.2.2.2.2.2.2.1 q.2.2.2.2.2.2.2.2.2.2.2.2.2.2.2.2.2.2.2.2.2.2.2.2.2.2.2.2.2) (c := law_b16.cst) rfl law_b16.it (w, A, E, s, base, mg, mb, mean, Q, outer, g, l, L', D, T, W, LO, SH, SP, TU, GO, WH, pa, rn, ts, z, hs, th, t21, news) : law_b16.Stm w A E s base mg mb mean Q outer g l L' D T W LO SH SP TU GO WH pa rn ts z hs th t21 news) o body scope qual cdv hdef G hh hd hu F N hS hn ha H hm hro
end Mine
end

section
namespace Mine
set_option maxRecDepth 100000
set_option maxHeartbeats 1000000
set_option linter.all false
theorem pick_all (vs : List Value) : kms_pick vs none none = vs := by
  unfold kms_pick
  simp only [kms_lo, kms_hi]
  simp
theorem pds_shaped {hs : Str} (hok : PyData.strOk hs = true) (xs ys : List Int) : SeqAt.shaped (.tuple [.list (xs.map (pd hs)), .list (ys.map (pd hs))]) = true := by
  have h1 : ∀ xs : List Int, PyData.canLayAll0 (xs.map (pd hs)) = true ∧ PyData.depthAll (xs.map (pd hs)) ≤ 2 := by
    intro xs
    induction xs with
    | nil => simp [PyData.canLayAll0, PyData.depthAll]
    | cons x r ih =>
      simp only [List.map_cons, PyData.canLayAll0, PyData.depthAll, pd, PyData.canLay0, PyData.depth, hok, ih.1]
      refine ⟨rfl, ?_⟩
      have := ih.2
      omega
  have a := h1 xs
  have b := h1 ys
  unfold SeqAt.shaped
  simp only [PyData.canLay0, PyData.canLayAll0, PyData.depth, PyData.depthAll, a.1, b.1]
  simp; omega
theorem pds_eqv {hs : Str} (xs ys : List Int) : PyData.eqv (.tuple [.list (xs.map (pd hs)), .list (ys.map (pd hs))]) (.tuple [.list (xs.map (pd hs)), .list (ys.map (pd hs))]) = true := by
  have : ∀ xs : List Int, PyData.eqvAll (xs.map (pd hs)) (xs.map (pd hs)) = true := by
    intro xs
    induction xs with
    | nil => simp [PyData.eqvAll]
    | cons x r ih => simp [PyData.eqvAll, PyData.eqv, pd, ih]
  simp [PyData.eqv, PyData.eqvAll, this]
noncomputable def law_b17.Stm (w : World) (A : Around) (E : Value → Shared → Prop) (s : Shared) (base : Heap) (mg : Str → Option Value) (mb : Str → Option Value) (mean : ExcName → Option Value) (Q : Value → Shared → Prop) (outer : List Env) (g : Heap) (l : Addr) (L' : Addr) (D : Addr) (T : Addr) (W : Addr) (LO : Addr) (SH : Addr) (SP : Addr) (TU : Addr) (GO : Addr) (WH : Addr) (KP : Addr) (vs : List Value) (ws : List Value) (xs : List Int) (ys : List Int) (ex1 : List (Addr × Obj)) (ex2 : List (Addr × Obj)) (z : Nat) (z2 : Nat) (hs : Str) (news : List (Addr × Obj)) : Prop := ∀ (body : List Stmt) (scope : Scope) (qual : Str) (cdv : Value) (hdef : LawDef w body scope qual cdv) (G : Gr w A base outer mean mg mb g) (hh : A.handled = none) (XB : (Mine.KC w.params).In base) (TB : Top EMP LS mean mg mb base) (hd : A.depth + 10 < recursionLimit) (hu : A.units + 300 < cLine) (F : Fr g L' s.heap (lawMap l { row := some (.ref D), things := some (.ref T), writings := some (.ref W), longs := some (.ref LO), shorts := some (.ref SH), spoiled := some (.ref SP), turned := some (.ref TU), good := some (.ref GO), whole := some (.ref WH), kept := some (.ref KP) })) (N : News g L' s.heap news) (hW : (WH, lobj vs z) ∈ news) (hK : (KP, lobj ws z2) ∈ news) (hv : PairsBy hs ex1 vs xs) (hw : PairsBy hs ex2 ws ys) (h1 : ∀ p ∈ ex1, p ∈ news) (h2 : ∀ p ∈ ex2, p ∈ news) (hok : PyData.strOk hs = true) (hn1 : vs.length ≤ 100) (hn2 : ws.length ≤ 100), wpAny (model PROG w) (A.deeper (envOfC qual scope L' 188 cdv)) (execs ((body.drop 17).take 1) (envOfC qual scope L' 188 cdv))
    (fun f s' => Hold (f = .ret (.bool true) ∧ ∃ g2 h tk m, s' = { s with heap := h, toks := tk } ∧ KtsTurn (outer.filterMap (·.frame)) g g2 ∧ Gr w A base outer mean mg mb g2 ∧ Fr g2 L' h m ∧ News g2 L' h news)) (fun _ _ => False) s
noncomputable def law_b17.cst : (World) × (Around) × (Value → Shared → Prop) × (Shared) × (Heap) × (Str → Option Value) × (Str → Option Value) × (ExcName → Option Value) × (Value → Shared → Prop) × (List Env) × (Heap) × (Addr) × (Addr) × (Addr) × (Addr) × (Addr) × (Addr) × (Addr) × (Addr) × (Addr) × (Addr) × (Addr) × (Addr) × (List Value) × (List Value) × (List Int) × (List Int) × (List (Addr × Obj)) × (List (Addr × Obj)) × (Nat) × (Nat) × (Str) × (List (Addr × Obj)) := eps (aWorld 0, {}, fun _ _ => True, {}, {}, fun _ => none, fun _ => none, fun _ => none, fun _ _ => True, [], {}, 0, 0, 0, 0, 0, 0, 0, 0, 0, 0, 0, 0, [], [], [], [], [], [], 0, 0, Str.empty, []) (fun q => law_b17.Stm q.1 q.2.1 q.2.2.1 q.2.2.2.1 q.2.2.2.2.1 q.2.2.2.2.2.1 q.2.2.2.2.2.2.1 q.2.2.2.2.2.2.2.1 q.2.2.2.2.2.2.2.2.1 q.2.2.2.2.2.2.2.2.2.1 q.2.2.2.2.2.2.2.2.2.2.1 q.2.2.2.2.2.2.2.2.2.2.2.1 q.2.2.2.2.2.2.2.2.2.2.2.2.1 q.2.2.2.2.2.2.2.2.2.2.2.2.2.1 q.2.2.2.2.2.2.2.2.2.2.2.2.2.2.1 q.2.2.2.2.2.2.2.2.2.2.2.2.2.2.2.1 q.2.2.2.2.2.2.2.2.2.2.2.2.2.2.2.2.1 q.2.2.2.2.2.2.2.2.2.2.2.2.2.2.2.2.2.1 q.2.2.2.2.2.2.2.2.2.2.2.2.2.2.2.2.2.2.1 q.2.2.2.2.2.2.2.2.2.2.2.2.2.2.2.2.2.2.2.1 q.2.2.2.2.2.2.2.2.2.2.2.2.2.2.2.2.2.2.2.2.1 q.2.2.2.2.2.2.2.2.2.2.2.2.2.2.2.2.2.2.2.2.2.1 q.2.2.2.2.2.2.2.2.2.2.2.2.2.2.2.2.2.2.2.2.2.2.1 q.2.2.2.2.2.2.2.2.2.2.2.2.2.2.2.2.2.2.2.2.2.2.2.1 q.2.2.2.2.2.2.2.2.2.2.2.2.2.2.2.2.2.2.2.2.2.2.2.2.1 q.2.2.2.2.2.2.2.2.2.2.2.2.2.2.2.2.2.2.2.2.2.2.2.2.2.1 q.2.2.2.2.2.2.2.2.2.2.2.2.2.2.2.2.2.2.2.2.2.2.2.2.2.2.1 q.2.2.2.2.2.2.2.2.2.2.2.2.2.2.2.2.2.2.2.2.2.2.2.2.2.2.2.1 q.2.2.2.2.2.2.2.2.2.2.2.2.2.2.2.2.2.2.2.2.2.2.2.2.2.2.2.2.1 q.2.2.2.2.2.2.2.2.2.2.2.2.2.2.2.2.2.2.2.2.2.2.2.2.2.2.2.2.2.1 q.2.2.2.2.2.2.2.2.2.2.2.2.2.2.2.2.2.2.2.2.2.2.2.2.2.2.2.2.2.2.1 q.2.2.2.2.2.2.2.2.2.2.2.2.2.2.2.2.2.2.2.2.2.2.2.2.2.2.2.2.2.2.2.1 q.2.2.2.2.2.2.2.2.2.2.2.2.2.2.2.2.2.2.2.2.2.2.2.2.2.2.2.2.2.2.2.2)
namespace law_b17
noncomputable def A : Around := cst.2.1
noncomputable def s : Shared := cst.2.2.2.1
noncomputable def g : Heap := cst.2.2.2.2.2.2.2.2.2.2.1
noncomputable def L' : Addr := cst.2.2.2.2.2.2.2.2.2.2.2.2.1
noncomputable def vs : List Value := cst.2.2.2.2.2.2.2.2.2.2.2.2.2.2.2.2.2.2.2.2.2.2.2.1
noncomputable def ws : List Value := cst.2.2.2.2.2.2.2.2.2.2.2.2.2.2.2.2.2.2.2.2.2.2.2.2.1
noncomputable def xs : List Int := cst.2.2.2.2.2.2.2.2.2.2.2.2.2.2.2.2.2.2.2.2.2.2.2.2.2.1
noncomputable def ys : List Int := cst.2.2.2.2.2.2.2.2.2.2.2.2.2.2.2.2.2.2.2.2.2.2.2.2.2.2.1
noncomputable def z : Nat := cst.2.2.2.2.2.2.2.2.2.2.2.2.2.2.2.2.2.2.2.2.2.2.2.2.2.2.2.2.2.1
noncomputable def hs : Str := cst.2.2.2.2.2.2.2.2.2.2.2.2.2.2.2.2.2.2.2.2.2.2.2.2.2.2.2.2.2.2.2.1
noncomputable def news : List (Addr × Obj) := cst.2.2.2.2.2.2.2.2.2.2.2.2.2.2.2.2.2.2.2.2.2.2.2.2.2.2.2.2.2.2.2.2
theorem it : Stm cst.1 A cst.2.2.1 s cst.2.2.2.2.1 cst.2.2.2.2.2.1 cst.2.2.2.2.2.2.1 cst.2.2.2.2.2.2.2.1 cst.2.2.2.2.2.2.2.2.1 cst.2.2.2.2.2.2.2.2.2.1 g cst.2.2.2.2.2.2.2.2.2.2.2.1 L' cst.2.2.2.2.2.2.2.2.2.2.2.2.2.1 cst.2.2.2.2.2.2.2.2.2.2.2.2.2.2.1 cst.2.2.2.2.2.2.2.2.2.2.2.2.2.2.2.1 cst.2.2.2.2.2.2.2.2.2.2.2.2.2.2.2.2.1 cst.2.2.2.2.2.2.2.2.2.2.2.2.2.2.2.2.2.1 cst.2.2.2.2.2.2.2.2.2.2.2.2.2.2.2.2.2.2.1 cst.2.2.2.2.2.2.2.2.2.2.2.2.2.2.2.2.2.2.2.1 cst.2.2.2.2.2.2.2.2.2.2.2.2.2.2.2.2.2.2.2.2.1 cst.2.2.2.2.2.2.2.2.2.2.2.2.2.2.2.2.2.2.2.2.2.1 cst.2.2.2.2.2.2.2.2.2.2.2.2.2.2.2.2.2.2.2.2.2.2.1 vs ws xs ys cst.2.2.2.2.2.2.2.2.2.2.2.2.2.2.2.2.2.2.2.2.2.2.2.2.2.2.2.1 cst.2.2.2.2.2.2.2.2.2.2.2.2.2.2.2.2.2.2.2.2.2.2.2.2.2.2.2.2.1 z cst.2.2.2.2.2.2.2.2.2.2.2.2.2.2.2.2.2.2.2.2.2.2.2.2.2.2.2.2.2.2.1 hs news := by
  intro body scope qual cdv hdef G hh XB TB hd hu F N hW hK hv hw h1 h2 hok hn1 hn2
  have hfill : (fun (_ : OpenLaw) (_ : Params → Frag) => True) PySem.Challenge.rw_nq0040_01 Mine.KC := by (k_fill; trivial)
  clear hfill
  w_top off
  obtain ⟨oc, od, name, params, dV, kV, doc, pm, an, ct, osl, hlk⟩ := hdef
  k_dflt (refine' lit_def ?li hlk ?_; (case li => k_is); k_whole)
  rintro rfl rfl rfl rfl
  dsimp only [List.drop, List.take]
  have G0 := G
  obtain ⟨B2, X2, T2, D2⟩ := G
  repeat' (first | ((with_reducible show wpAny _ _ (subscriptTail _ (PySem.Expr.Slice _ _ none _) (Value.ref _) (Value.ref _)) _ _ _); refine' slice_in ?F ?N ?hm ?hn ?p ?q ?_ ?s ?t; (case F => k_asm); (case N => k_asm); (case hm => first | assumption | exact .tail _ (by assumption)); (case hn => omega); (case p => kmk_part); (case q => kmk_part); (case s => with_unfolding_all rfl); (case t => kmk_pure); intro _ _ _ _ _) | walk_at "m1")
  rename_i E1 h1' F1 N1 l1 E2 h2' F2 N2 l2
  simp only [pick_all] at N2
  clear F1 N1 F N
  have hE1L : E1 ≠ L' := (N2 _ (.tail _ (.head _))).2.1
  have hE2L : E2 ≠ L' := (N2 _ (.head _)).2.1
  have hE1g : g.get? E1 = none := (N2 _ (.tail _ (.head _))).2.2
  have hE2g : g.get? E2 = none := (N2 _ (.head _)).2.2
  have hne : E1 ≠ E2 := Nat.ne_of_lt (l2 _ (.head _))
  have off : ∀ b o, g.get? b = some o → b ∉ [E1, E2] := fun b o e q => by
    simp only [List.mem_cons, List.not_mem_nil, or_false] at q
    rcases q with rfl | rfl
    · rw [hE1g] at e; cases e
    · rw [hE2g] at e; cases e
  have F3 : Fr g L' (hideAll h2' [E1, E2]) _ := ⟨(by obtain ⟨oL, es, ep, hL1, r⟩ := F2.ns; exact ⟨oL, es, ep, hideAll_get _ hL1 (by simp only [List.mem_cons, List.not_mem_nil, or_false]; rintro (q | q); exact hE1L q.symm; exact hE2L q.symm), r⟩), fun b o e => hideAll_get _ (F2.keep b o e) (off b o e), F2.above⟩
  have N3 : News g L' (hideAll h2' [E1, E2]) news := fun q hq => ⟨hideAll_get _ (N2 q (.tail _ (.tail _ hq))).1 (by
    simp only [List.mem_cons, List.not_mem_nil, or_false]
    rintro (z | z)
    · exact absurd z (Nat.ne_of_lt (l1 q hq))
    · exact absurd z (Nat.ne_of_lt (l2 q (.tail _ hq)))), (N2 q (.tail _ (.tail _ hq))).2⟩
  refine uld_spec (g := hideAll h2' [E1, E2]) (hs := hs) (vs := vs) (ws := ws) (xs := xs) (ys := ys) ⟨belowX B2 F3, X2.keeps F3.keep, T2.keeps F3.keep, Gr.dictsE rfl G0 F3⟩ hh XB TB (fun b o e => of_hideAll _ e) (Nat.le_of_eq (hideAll_size _ _)) (X2.keeps F2.keep) (T2.keeps F2.keep) (belowX B2 F2) (hideAll_none _ (by simp)) (hideAll_none _ (by simp)) hne (N2 _ (.tail _ (.head _))).1 (N2 _ (.head _)).1 (hv _ fun p hp => (N3 p (h1 p hp)).1) (hw _ fun p hp => (N3 p (h2 p hp)).1) hok hn1 hn2 ?_ ?_ ?_
  · show A.depth + 1 + 2 < recursionLimit; omega
  · show A.units + 3 + 200 < cLine; omega
  intro v g' h4 tk4 Tn k4 ⟨as, R⟩
  obtain ⟨g2, Tn2, F5, N5, G2⟩ := after_turnE rfl G0 XB TB F3 N3 Tn k4
  obtain ⟨B5, X5, T5, D5⟩ := id G2
  clear X2 T2 B2 D2 F2 N2
  repeat' (first | ((with_reducible show wpAny _ _ (subscriptTail _ (PySem.Expr.Slice _ _ none _) (Value.ref _) (Value.ref _)) _ _ _); refine' slice_in ?F ?N ?hm ?hn ?p ?q ?_ ?s ?t; (case F => k_asm); (case N => k_asm); (case hm => first | assumption | exact .tail _ (by assumption)); (case hn => omega); (case p => kmk_part); (case q => kmk_part); (case s => with_unfolding_all rfl); (case t => kmk_pure); intro _ _ _ _ _) | walk_at "m1")
  refine lost_spec (hs := hs) (vs := vs) (ws := ws) (xs := xs) (ys := ys) (belowX B5 F5) (X5.keeps F5.keep) (T5.keeps F5.keep) hh (N5 _ hW).1 (N5 _ hK).1 (hv _ fun p hp => (N5 p (h1 p hp)).1) (hw _ fun p hp => (N5 p (h2 p hp)).1) hok hn1 hn2 ?_ ?_ ?_
  · show A.depth + 1 + 2 < recursionLimit; omega
  · show A.units + 3 + 200 < cLine; omega
  intro v2 h6 tk6 k6 ⟨as2, R2⟩
  have R' := PyProof.Rows.Reads.keeps k6 R
  have F6 := F5.keeps k6
  have N6 := N5.grown k6
  rw [uld_law] at R'
  clear F5 N5
  refine eq_dataH R' R2 (pds_shaped hok _ _) (pds_shaped hok _ _) ?_ ?_
  · show A.units + 3 + 64 < cLine; omega
  rw [pds_eqv]
  repeat' (first | ((with_reducible show wpAny _ _ (subscriptTail _ (PySem.Expr.Slice _ _ none _) (Value.ref _) (Value.ref _)) _ _ _); refine' slice_in ?F ?N ?hm ?hn ?p ?q ?_ ?s ?t; (case F => k_asm); (case N => k_asm); (case hm => first | assumption | exact .tail _ (by assumption)); (case hn => omega); (case p => kmk_part); (case q => kmk_part); (case s => with_unfolding_all rfl); (case t => kmk_pure); intro _ _ _ _ _) | walk_at "m1")
  exact ⟨rfl, g2, h6, tk6, _, rfl, Tn2, G2, F6, N6⟩
end law_b17
theorem law_b17 {w : World} {A : Around} {E : Value → Shared → Prop} {s : Shared} {base : Heap} {mg : Str → Option Value} {mb : Str → Option Value} {mean : ExcName → Option Value} {Q : Value → Shared → Prop} {outer : List Env} {g : Heap} {l : Addr} {L' : Addr} {D : Addr} {T : Addr} {W : Addr} {LO : Addr} {SH : Addr} {SP : Addr} {TU : Addr} {GO : Addr} {WH : Addr} {KP : Addr} {vs : List Value} {ws : List Value} {xs : List Int} {ys : List Int} {ex1 : List (Addr × Obj)} {ex2 : List (Addr × Obj)} {z : Nat} {z2 : Nat} {hs : Str} {news : List (Addr × Obj)} {body : List Stmt} {scope : Scope} {qual : Str} {cdv : Value}
   (hdef : LawDef w body scope qual cdv) (G : Gr w A base outer mean mg mb g) (hh : A.handled = none) (XB : (Mine.KC w.params).In base) (TB : Top EMP LS mean mg mb base) (hd : A.depth + 10 < recursionLimit) (hu : A.units + 300 < cLine) (F : Fr g L' s.heap (lawMap l { row := some (.ref D), things := some (.ref T), writings := some (.ref W), longs := some (.ref LO), shorts := some (.ref SH), spoiled := some (.ref SP), turned := some (.ref TU), good := some (.ref GO), whole := some (.ref WH), kept := some (.ref KP) })) (N : News g L' s.heap news) (hW : (WH, lobj vs z) ∈ news) (hK : (KP, lobj ws z2) ∈ news) (hv : PairsBy hs ex1 vs xs) (hw : PairsBy hs ex2 ws ys) (h1 : ∀ p ∈ ex1, p ∈ news) (h2 : ∀ p ∈ ex2, p ∈ news) (hok : PyData.strOk hs = true) (hn1 : vs.length ≤ 100) (hn2 : ws.length ≤ 100) : wpAny (model PROG w) (A.deeper (envOfC qual scope L' 188 cdv)) (execs ((body.drop 17).take 1) (envOfC qual scope L' 188 cdv))
    (fun f s' => Hold (f = .ret (.bool true) ∧ ∃ g2 h tk m, s' = { s with heap := h, toks := tk } ∧ KtsTurn (outer.filterMap (·.frame)) g g2 ∧ Gr w A base outer mean mg mb g2 ∧ Fr g2 L' h m ∧ News g2 L' h news)) (fun _ _ => False) s :=
  (eps_at (G := fun q => law_b17.Stm q.1 q.2.1 q.2.2.1 q.2.2.2.1 q.2.2.2.2.1 q.2.2.2.2.2.1 q.2.2.2.2.2.2.1 q.2.2.2.2.2.2.2.1 q.2.2.2.2.2.2.2.2.1 q.2.2.2.2.2.2.2.2.2.1 q.2.2.2.2.2.2.2.2.2.2.1 q.2.2.2.2.2.2.2.2.2.2.2.1 q.2.2.2.2.2.2.2.2.2.2.2.2.1 q.2.2.2.2.2.2.2.2.2.2.2.2.2.1 q.2.2.2.2.2.2.2.2.2.2.2.2.2.2.1 q.2.2.2.2.2.2.2.2.2.2.2.2.2.2.2.1 q.2.2.2.2.2.2.2.2.2.2.2.2.2.2.2.2.1 q.2.2.2.2.2.2.2.2.2.2.2.2.2.2.2.2.2.1 q.2.2.2.2.2.2.2.2.2.2.2.2.2.2.2.2.2.2.1 q.2.2.2.2.2.2.2.2.2.2.2.2.2.2.2.2.2.2.2.1 q.2.2.2.2.2.2.2.2.2.2.2.2.2.2.2.2.2.2.2.2.1 q.2.2.2.2.2.2.2.2.2.2.2.2.2.2.2.2.2.2.2.2.2.1 q.2.2.2.2.2.2.2.2.2.2.2.2.2.2.2.2.2.2.2.2.2.2.1 q.2.2.2.2.2.2.2.2.2.2.2.2.2.2.2.2.2.2.2.2.2.2.2.1 q.2.2.2.2.2.2.2.2.2.2.2.2.2.2.2.2.2.2.2.2.2.2.2.2.1 q.2.2.2.2.2.2.2.2.2.2.2.2.2.2.2.2.2.2.2.2.2.2.2.2.2.1 q.2.2.2.2.2.2.2.2.2.2.2.2.2.2.2.2.2.2.2.2.2.2.2.2.2.2.1 q.2.2.2.2.2.2.2.2.2.2.2.2.2.2.2.2.2.2.2.2.2.2.2.2.2.2.2.1 q.2.2.2.2.2.2.2.2.2.2.2.2.2.2.2.2.2.2.2.2.2.2.2.2.2.2.2.2.1 q.2.2.2.2.2.2.2.2.2.2.2.2.2.2.2.2.2.2.2.2.2.2.2.2.2.2.2.2.2.1 q.2.2.2.2.2.2.2.2.2.2.2.2.2.2.2.2.2.2.2.2.2.2.2.2.2.2.2.2.2.2.1 q.2.2.2.2.2.2.2.2.2.2.2.2.2.2.2.2.2.2.2.2.2.2.2.2.2.2.2.2.2.2.2.1 q.2.2.2.2.2.2.2.2.2.2.2.2.2.2.2.2.2.2.2.2.2.2.2.2.2.2.2.2.2.2.2.2) (c := law_b17.cst) rfl law_b17.it (w, A, E, s, base, mg, mb, mean, Q, outer, g, l, L', D, T, W, LO, SH, SP, TU, GO, WH, KP, vs, ws, xs, ys, ex1, ex2, z, z2, hs, news) : law_b17.Stm w A E s base mg mb mean Q outer g l L' D T W LO SH SP TU GO WH KP vs ws xs ys ex1 ex2 z z2 hs news) body scope qual cdv hdef G hh XB TB hd hu F N hW hK hv hw h1 h2 hok hn1 hn2
end Mine
end

section
set_option linter.all false
namespace Mine
theorem idx3 {n : Nat} (h : 3 ≤ n) : PySem.Builtin.Str.strSliceIndices none (some 3) 1 n = [0, 1, 2] := by
  unfold PySem.Builtin.Str.strSliceIndices sliceRange
  have e : max 0 (min (3 : Int) (n : Int)) = 3 := by omega
  simp only [show (1 : Int) > 0 by decide, if_true, show ¬ ((3 : Int) < 0) by decide, if_false, e, show (0 : Int) < 3 by decide]
  rfl
theorem slice3 (y : Str) : Txt.slice (Str.ofString "229 " ++ y) none (some 3) = Str.ofString "229" := by
  have hl : (Str.ofString "229 " ++ y).length = 4 + y.length := by rw [strLen_append]; rfl
  unfold Txt.slice
  rw [hl, idx3 (by omega)]
  rw [if_neg (by simp; omega)]
  have e : ∀ i, i < 4 → (Str.ofString "229 " ++ y).cps[i]? = (Str.ofString "229 ").cps[i]? := fun i hi => by
    show ((Str.ofString "229 ").cps ++ y.cps)[i]? = _
    rw [Array.getElem?_append_left]
    exact hi
  simp only [List.filterMap_cons, List.filterMap_nil, e 0 (by omega), e 1 (by omega), e 2 (by omega)]
  rfl
end Mine
end

section
namespace Mine
set_option maxRecDepth 100000
set_option maxHeartbeats 1000000
set_option linter.all false
theorem app_assoc (a b c : Str) : a ++ b ++ c = a ++ (b ++ c) := by
  show (⟨(a.cps ++ b.cps) ++ c.cps⟩ : Str) = ⟨a.cps ++ (b.cps ++ c.cps)⟩
  rw [Array.append_assoc]
theorem long_no (x : Str) : parseF (longF x) ≠ .reply := by
  unfold parseF longF
  rw [app_assoc, slice3]
  simp only [bne_self_eq_false, Bool.false_eq_true, if_false]
  split
  · simp
  · split
    · simp
    · unfold parseIn
      split
      · simp
      · split
        · simp
        · split <;> simp
theorem read_d0 : (match readF (longF (PyData.shown (.tuple [.str (Str.ofString "|"), .str (Str.ofString " 21 ")]))) with | .ok _ => true | _ => false) = true := by decide +kernel
theorem read_d1 : (match readF (longF (PyData.shown (.tuple [.int 5, .int 5, .int 5805]))) with | .ok _ => true | _ => false) = true := by decide +kernel
theorem long_asc {x : Str} (h : Asc x) (hl : x.length ≤ 400) : Asc (longF x) ∧ (longF x).length ≤ 500 := by
  refine ⟨asc_app (asc_app (asc_of _ (by decide +kernel)) h) (asc_of _ (by decide +kernel)), ?_⟩
  unfold longF
  rw [strLen_append, strLen_append]
  have e1 : (Str.ofString "229 ").length = 4 := by decide +kernel
  have e2 : (Str.ofString " (9)").length = 4 := by decide +kernel
  omega
theorem cut_asc {x : Str} (h : Asc x) (hl : x.length ≤ 400) : Asc (cutF x) ∧ (cutF x).length ≤ 500 := by
  refine ⟨asc_app (asc_of _ (by decide +kernel)) (short_asc h), ?_⟩
  unfold cutF
  rw [strLen_append]
  have e1 : (Str.ofString "229 ").length = 4 := by decide +kernel
  have := short_len hl
  omega
theorem chainA {M : Model} {A : Around} {E : Value → Shared → Prop} {s : Shared} {env : Env} {body : List Stmt} {Q : Flow → Shared → Prop} (i n : Nat)
    (h : wpAny M A (execs ((body.drop i).take n) env) (fun f s' => match f with | .next => wpC M A (execs (body.drop (i + n)) env) Q E s' | f => Q f s') E s) : wpC M A (execs (body.drop i) env) Q E s := by
  refine wpC_execs_at n ?_
  rwa [List.drop_drop]
theorem wpC_execs_appC {M : Model} {A : Around} {E : Value → Shared → Prop} {s : Shared} {env : Env} {pre post : List Stmt} {Q : Flow → Shared → Prop}
    (h : wpC M A (execs pre env) (fun f s' => match f with | .next => wpC M A (execs post env) Q E s' | f => Q f s') E s) : wpC M A (execs (pre ++ post) env) Q E s := by
  have key : execs (pre ++ post) env = (do match ← execs pre env with | .next => execs post env | f => pure f) := by
    clear h
    induction pre with
    | nil => rfl
    | cons st r ih =>
      show (do match ← exec st env with | .next => execs (r ++ post) env | f => pure f) = (do match ← (do match ← exec st env with | .next => execs r env | f => pure f) with | .next => execs post env | f => pure f)
      rw [ih, bind_assoc]
      congr 1
      funext f
      cases f <;> rfl
  rw [key]
  refine wpC_bind (wpC_mono h (fun f s' h' => ?_) fun _ _ x => x)
  cases f <;> first | exact h' | exact wpC_pure h'
theorem chainC {M : Model} {A : Around} {E : Value → Shared → Prop} {s : Shared} {env : Env} {body : List Stmt} {Q : Flow → Shared → Prop} (i n : Nat)
    (h : wpC M A (execs ((body.drop i).take n) env) (fun f s' => match f with | .next => wpC M A (execs (body.drop (i + n)) env) Q E s' | f => Q f s') E s) : wpC M A (execs (body.drop i) env) Q E s := by
  have := wpC_execs_appC (pre := (body.drop i).take n) (post := (body.drop i).drop n) (env := env) (Q := Q) (by rw [List.drop_drop]; exact h)
  rwa [List.take_append_drop] at this
theorem chA22 {M : Model} {A : Around} {E : Value → Shared → Prop} {s : Shared} {env : Env} {body : List Stmt} {Q : Flow → Shared → Prop} {X0 X1 : Type} {st : X0 → X1 → Shared} {p0 p1 : X0 → X1 → Prop} (i k : Nat)
    (h : wpAny M A (execs ((body.drop i).take k) env) (fun f s' => Hold (f = .next ∧ ∃ x0 x1, s' = st x0 x1 ∧ p0 x0 x1 ∧ p1 x0 x1)) (fun _ _ => False) s)
    (r : ∀ x0 x1, p0 x0 x1 → p1 x0 x1 → wpC M A (execs (body.drop (i + k)) env) Q E (st x0 x1)) : wpC M A (execs (body.drop i) env) Q E s :=
  chainA i k (wpAny_mono h (fun f s' q => by obtain ⟨rfl, x0, x1, rfl, c0, c1⟩ := q.it; exact r x0 x1 c0 c1) fun _ _ z => z.elim)
theorem chA32 {M : Model} {A : Around} {E : Value → Shared → Prop} {s : Shared} {env : Env} {body : List Stmt} {Q : Flow → Shared → Prop} {X0 X1 X2 : Type} {st : X0 → X1 → X2 → Shared} {p0 p1 : X0 → X1 → X2 → Prop} (i k : Nat)
    (h : wpAny M A (execs ((body.drop i).take k) env) (fun f s' => Hold (f = .next ∧ ∃ x0 x1 x2, s' = st x0 x1 x2 ∧ p0 x0 x1 x2 ∧ p1 x0 x1 x2)) (fun _ _ => False) s)
    (r : ∀ x0 x1 x2, p0 x0 x1 x2 → p1 x0 x1 x2 → wpC M A (execs (body.drop (i + k)) env) Q E (st x0 x1 x2)) : wpC M A (execs (body.drop i) env) Q E s :=
  chainA i k (wpAny_mono h (fun f s' q => by obtain ⟨rfl, x0, x1, x2, rfl, c0, c1⟩ := q.it; exact r x0 x1 x2 c0 c1) fun _ _ z => z.elim)
theorem chA42 {M : Model} {A : Around} {E : Value → Shared → Prop} {s : Shared} {env : Env} {body : List Stmt} {Q : Flow → Shared → Prop} {X0 X1 X2 X3 : Type} {st : X0 → X1 → X2 → X3 → Shared} {p0 p1 : X0 → X1 → X2 → X3 → Prop} (i k : Nat)
    (h : wpAny M A (execs ((body.drop i).take k) env) (fun f s' => Hold (f = .next ∧ ∃ x0 x1 x2 x3, s' = st x0 x1 x2 x3 ∧ p0 x0 x1 x2 x3 ∧ p1 x0 x1 x2 x3)) (fun _ _ => False) s)
    (r : ∀ x0 x1 x2 x3, p0 x0 x1 x2 x3 → p1 x0 x1 x2 x3 → wpC M A (execs (body.drop (i + k)) env) Q E (st x0 x1 x2 x3)) : wpC M A (execs (body.drop i) env) Q E s :=
  chainA i k (wpAny_mono h (fun f s' q => by obtain ⟨rfl, x0, x1, x2, x3, rfl, c0, c1⟩ := q.it; exact r x0 x1 x2 x3 c0 c1) fun _ _ z => z.elim)
theorem chA43 {M : Model} {A : Around} {E : Value → Shared → Prop} {s : Shared} {env : Env} {body : List Stmt} {Q : Flow → Shared → Prop} {X0 X1 X2 X3 : Type} {st : X0 → X1 → X2 → X3 → Shared} {p0 p1 p2 : X0 → X1 → X2 → X3 → Prop} (i k : Nat)
    (h : wpAny M A (execs ((body.drop i).take k) env) (fun f s' => Hold (f = .next ∧ ∃ x0 x1 x2 x3, s' = st x0 x1 x2 x3 ∧ p0 x0 x1 x2 x3 ∧ p1 x0 x1 x2 x3 ∧ p2 x0 x1 x2 x3)) (fun _ _ => False) s)
    (r : ∀ x0 x1 x2 x3, p0 x0 x1 x2 x3 → p1 x0 x1 x2 x3 → p2 x0 x1 x2 x3 → wpC M A (execs (body.drop (i + k)) env) Q E (st x0 x1 x2 x3)) : wpC M A (execs (body.drop i) env) Q E s :=
  chainA i k (wpAny_mono h (fun f s' q => by obtain ⟨rfl, x0, x1, x2, x3, rfl, c0, c1, c2⟩ := q.it; exact r x0 x1 x2 x3 c0 c1 c2) fun _ _ z => z.elim)
theorem chA53 {M : Model} {A : Around} {E : Value → Shared → Prop} {s : Shared} {env : Env} {body : List Stmt} {Q : Flow → Shared → Prop} {X0 X1 X2 X3 X4 : Type} {st : X0 → X1 → X2 → X3 → X4 → Shared} {p0 p1 p2 : X0 → X1 → X2 → X3 → X4 → Prop} (i k : Nat)
    (h : wpAny M A (execs ((body.drop i).take k) env) (fun f s' => Hold (f = .next ∧ ∃ x0 x1 x2 x3 x4, s' = st x0 x1 x2 x3 x4 ∧ p0 x0 x1 x2 x3 x4 ∧ p1 x0 x1 x2 x3 x4 ∧ p2 x0 x1 x2 x3 x4)) (fun _ _ => False) s)
    (r : ∀ x0 x1 x2 x3 x4, p0 x0 x1 x2 x3 x4 → p1 x0 x1 x2 x3 x4 → p2 x0 x1 x2 x3 x4 → wpC M A (execs (body.drop (i + k)) env) Q E (st x0 x1 x2 x3 x4)) : wpC M A (execs (body.drop i) env) Q E s :=
  chainA i k (wpAny_mono h (fun f s' q => by obtain ⟨rfl, x0, x1, x2, x3, x4, rfl, c0, c1, c2⟩ := q.it; exact r x0 x1 x2 x3 x4 c0 c1 c2) fun _ _ z => z.elim)
theorem chA54 {M : Model} {A : Around} {E : Value → Shared → Prop} {s : Shared} {env : Env} {body : List Stmt} {Q : Flow → Shared → Prop} {X0 X1 X2 X3 X4 : Type} {st : X0 → X1 → X2 → X3 → X4 → Shared} {p0 p1 p2 p3 : X0 → X1 → X2 → X3 → X4 → Prop} (i k : Nat)
    (h : wpAny M A (execs ((body.drop i).take k) env) (fun f s' => Hold (f = .next ∧ ∃ x0 x1 x2 x3 x4, s' = st x0 x1 x2 x3 x4 ∧ p0 x0 x1 x2 x3 x4 ∧ p1 x0 x1 x2 x3 x4 ∧ p2 x0 x1 x2 x3 x4 ∧ p3 x0 x1 x2 x3 x4)) (fun _ _ => False) s)
    (r : ∀ x0 x1 x2 x3 x4, p0 x0 x1 x2 x3 x4 → p1 x0 x1 x2 x3 x4 → p2 x0 x1 x2 x3 x4 → p3 x0 x1 x2 x3 x4 → wpC M A (execs (body.drop (i + k)) env) Q E (st x0 x1 x2 x3 x4)) : wpC M A (execs (body.drop i) env) Q E s :=
  chainA i k (wpAny_mono h (fun f s' q => by obtain ⟨rfl, x0, x1, x2, x3, x4, rfl, c0, c1, c2, c3⟩ := q.it; exact r x0 x1 x2 x3 x4 c0 c1 c2 c3) fun _ _ z => z.elim)
theorem chA64 {M : Model} {A : Around} {E : Value → Shared → Prop} {s : Shared} {env : Env} {body : List Stmt} {Q : Flow → Shared → Prop} {X0 X1 X2 X3 X4 X5 : Type} {st : X0 → X1 → X2 → X3 → X4 → X5 → Shared} {p0 p1 p2 p3 : X0 → X1 → X2 → X3 → X4 → X5 → Prop} (i k : Nat)
    (h : wpAny M A (execs ((body.drop i).take k) env) (fun f s' => Hold (f = .next ∧ ∃ x0 x1 x2 x3 x4 x5, s' = st x0 x1 x2 x3 x4 x5 ∧ p0 x0 x1 x2 x3 x4 x5 ∧ p1 x0 x1 x2 x3 x4 x5 ∧ p2 x0 x1 x2 x3 x4 x5 ∧ p3 x0 x1 x2 x3 x4 x5)) (fun _ _ => False) s)
    (r : ∀ x0 x1 x2 x3 x4 x5, p0 x0 x1 x2 x3 x4 x5 → p1 x0 x1 x2 x3 x4 x5 → p2 x0 x1 x2 x3 x4 x5 → p3 x0 x1 x2 x3 x4 x5 → wpC M A (execs (body.drop (i + k)) env) Q E (st x0 x1 x2 x3 x4 x5)) : wpC M A (execs (body.drop i) env) Q E s :=
  chainA i k (wpAny_mono h (fun f s' q => by obtain ⟨rfl, x0, x1, x2, x3, x4, x5, rfl, c0, c1, c2, c3⟩ := q.it; exact r x0 x1 x2 x3 x4 x5 c0 c1 c2 c3) fun _ _ z => z.elim)
theorem chA75 {M : Model} {A : Around} {E : Value → Shared → Prop} {s : Shared} {env : Env} {body : List Stmt} {Q : Flow → Shared → Prop} {X0 X1 X2 X3 X4 X5 X6 : Type} {st : X0 → X1 → X2 → X3 → X4 → X5 → X6 → Shared} {p0 p1 p2 p3 p4 : X0 → X1 → X2 → X3 → X4 → X5 → X6 → Prop} (i k : Nat)
    (h : wpAny M A (execs ((body.drop i).take k) env) (fun f s' => Hold (f = .next ∧ ∃ x0 x1 x2 x3 x4 x5 x6, s' = st x0 x1 x2 x3 x4 x5 x6 ∧ p0 x0 x1 x2 x3 x4 x5 x6 ∧ p1 x0 x1 x2 x3 x4 x5 x6 ∧ p2 x0 x1 x2 x3 x4 x5 x6 ∧ p3 x0 x1 x2 x3 x4 x5 x6 ∧ p4 x0 x1 x2 x3 x4 x5 x6)) (fun _ _ => False) s)
    (r : ∀ x0 x1 x2 x3 x4 x5 x6, p0 x0 x1 x2 x3 x4 x5 x6 → p1 x0 x1 x2 x3 x4 x5 x6 → p2 x0 x1 x2 x3 x4 x5 x6 → p3 x0 x1 x2 x3 x4 x5 x6 → p4 x0 x1 x2 x3 x4 x5 x6 → wpC M A (execs (body.drop (i + k)) env) Q E (st x0 x1 x2 x3 x4 x5 x6)) : wpC M A (execs (body.drop i) env) Q E s :=
  chainA i k (wpAny_mono h (fun f s' q => by obtain ⟨rfl, x0, x1, x2, x3, x4, x5, x6, rfl, c0, c1, c2, c3, c4⟩ := q.it; exact r x0 x1 x2 x3 x4 x5 x6 c0 c1 c2 c3 c4) fun _ _ z => z.elim)
theorem chA77 {M : Model} {A : Around} {E : Value → Shared → Prop} {s : Shared} {env : Env} {body : List Stmt} {Q : Flow → Shared → Prop} {X0 X1 X2 X3 X4 X5 X6 : Type} {st : X0 → X1 → X2 → X3 → X4 → X5 → X6 → Shared} {p0 p1 p2 p3 p4 p5 p6 : X0 → X1 → X2 → X3 → X4 → X5 → X6 → Prop} (i k : Nat)
    (h : wpAny M A (execs ((body.drop i).take k) env) (fun f s' => Hold (f = .next ∧ ∃ x0 x1 x2 x3 x4 x5 x6, s' = st x0 x1 x2 x3 x4 x5 x6 ∧ p0 x0 x1 x2 x3 x4 x5 x6 ∧ p1 x0 x1 x2 x3 x4 x5 x6 ∧ p2 x0 x1 x2 x3 x4 x5 x6 ∧ p3 x0 x1 x2 x3 x4 x5 x6 ∧ p4 x0 x1 x2 x3 x4 x5 x6 ∧ p5 x0 x1 x2 x3 x4 x5 x6 ∧ p6 x0 x1 x2 x3 x4 x5 x6)) (fun _ _ => False) s)
    (r : ∀ x0 x1 x2 x3 x4 x5 x6, p0 x0 x1 x2 x3 x4 x5 x6 → p1 x0 x1 x2 x3 x4 x5 x6 → p2 x0 x1 x2 x3 x4 x5 x6 → p3 x0 x1 x2 x3 x4 x5 x6 → p4 x0 x1 x2 x3 x4 x5 x6 → p5 x0 x1 x2 x3 x4 x5 x6 → p6 x0 x1 x2 x3 x4 x5 x6 → wpC M A (execs (body.drop (i + k)) env) Q E (st x0 x1 x2 x3 x4 x5 x6)) : wpC M A (execs (body.drop i) env) Q E s :=
  chainA i k (wpAny_mono h (fun f s' q => by obtain ⟨rfl, x0, x1, x2, x3, x4, x5, x6, rfl, c0, c1, c2, c3, c4, c5, c6⟩ := q.it; exact r x0 x1 x2 x3 x4 x5 x6 c0 c1 c2 c3 c4 c5 c6) fun _ _ z => z.elim)
theorem chC34 {M : Model} {A : Around} {E : Value → Shared → Prop} {s : Shared} {env : Env} {body : List Stmt} {Q : Flow → Shared → Prop} {X0 X1 X2 : Type} {st : X0 → X1 → X2 → Shared} {p0 p1 p2 p3 : X0 → X1 → X2 → Prop} (i k : Nat)
    (h : wpC M A (execs ((body.drop i).take k) env) (fun f s' => Hold (f = .next ∧ ∃ x0 x1 x2, s' = st x0 x1 x2 ∧ p0 x0 x1 x2 ∧ p1 x0 x1 x2 ∧ p2 x0 x1 x2 ∧ p3 x0 x1 x2)) (fun _ _ => False) s)
    (r : ∀ x0 x1 x2, p0 x0 x1 x2 → p1 x0 x1 x2 → p2 x0 x1 x2 → p3 x0 x1 x2 → wpC M A (execs (body.drop (i + k)) env) Q E (st x0 x1 x2)) : wpC M A (execs (body.drop i) env) Q E s :=
  chainC i k (wpC_mono h (fun f s' q => by obtain ⟨rfl, x0, x1, x2, rfl, c0, c1, c2, c3⟩ := q.it; exact r x0 x1 x2 c0 c1 c2 c3) fun _ _ z => z.elim)
theorem chC35 {M : Model} {A : Around} {E : Value → Shared → Prop} {s : Shared} {env : Env} {body : List Stmt} {Q : Flow → Shared → Prop} {X0 X1 X2 : Type} {st : X0 → X1 → X2 → Shared} {p0 p1 p2 p3 p4 : X0 → X1 → X2 → Prop} (i k : Nat)
    (h : wpC M A (execs ((body.drop i).take k) env) (fun f s' => Hold (f = .next ∧ ∃ x0 x1 x2, s' = st x0 x1 x2 ∧ p0 x0 x1 x2 ∧ p1 x0 x1 x2 ∧ p2 x0 x1 x2 ∧ p3 x0 x1 x2 ∧ p4 x0 x1 x2)) (fun _ _ => False) s)
    (r : ∀ x0 x1 x2, p0 x0 x1 x2 → p1 x0 x1 x2 → p2 x0 x1 x2 → p3 x0 x1 x2 → p4 x0 x1 x2 → wpC M A (execs (body.drop (i + k)) env) Q E (st x0 x1 x2)) : wpC M A (execs (body.drop i) env) Q E s :=
  chainC i k (wpC_mono h (fun f s' q => by obtain ⟨rfl, x0, x1, x2, rfl, c0, c1, c2, c3, c4⟩ := q.it; exact r x0 x1 x2 c0 c1 c2 c3 c4) fun _ _ z => z.elim)
theorem am_cons {α : Type} {P : α → Prop} {a : α} {l : List α} (h : P a) (t : ∀ p ∈ l, P p) : ∀ p ∈ a :: l, P p := fun p hp => by
  rcases List.mem_cons.mp hp with rfl | hp
  · exact h
  · exact t p hp
theorem am_nil {α : Type} {P : α → Prop} : ∀ p ∈ ([] : List α), P p := fun _ h => nomatch h
theorem ne_of_obj {g h : Heap} {L : Addr} {news : List (Addr × Obj)} (N : News g L h news) {a b : Addr} {o q : Obj} (hp : (a, o) ∈ news) (hq : (b, q) ∈ news) (e : o ≠ q) : a ≠ b := fun z => by
  have h1 := (N _ hp).1
  have h2 := (N _ hq).1
  subst z
  rw [h1] at h2
  exact e (Option.some.inj h2)
theorem HostAt.more {L : Addr} {news news' : List (Addr × Obj)} {hs : Str} {th : Tok} {pa : Addr} {t21 : Tok} (H : HostAt L news hs th pa t21) (m : ∀ p ∈ news, p ∈ news') : HostAt L news' hs th pa t21 := by
  obtain ⟨oh, op, z, a, b, c, d, e⟩ := H
  exact ⟨oh, op, z, m _ a, m _ b, c, d, m _ e⟩
theorem law_chain {w : World} {A : Around} {E : Value → Shared → Prop} {s : Shared} {base : Heap} {mg mb : Str → Option Value} {mean : ExcName → Option Value} {Q : Value → Shared → Prop} {outer : List Env} {g : Heap} {l L' : Addr} {vs : List Value} {ns : List Int} {body : List Stmt} {scope : Scope} {qual : Str} {cdv : Value} {oh op : Obj} {c1 c2 : Option Value} {R : Flow → Shared → Prop} {E' : Value → Shared → Prop}
   (hdef : LawDef w body scope qual cdv) (hsk : scope.kind = .function) (G : Gr w A base outer mean mg mb g) (hh : A.handled = none) (hgu : A.guards = some []) (XB : (Mine.KC w.params).In base) (TB : Top EMP LS mean mg mb base)
   (hd : A.depth + 20 < recursionLimit) (hu : A.units + 500 < cLine) (hl : g.IsList l vs.toArray) (hi : IntsAre vs ns) (hn : ns.length ≤ 63)
   (F : Fr g L' s.heap (lawMap l {})) (N : News g L' s.heap [(L' + 1 + 1, op), (L' + 1, oh), (60, tabObj #[]), (152, tabObj #[])]) (e1 : oh.data = .cell c1) (e2 : op.data = .cell c2) (hm1 : ∃ o, g.get? sysModules = some o)
   (ret : ∀ g2 h tk m ps qs, KtsTurn (outer.filterMap (·.frame)) g g2 → Fr g2 L' h m → h.get? 60 = some (tabObj ps) → h.get? 152 = some (tabObj qs) → R (.ret (.bool true)) { s with heap := h, toks := tk }) :
   wpC (model PROG w) (A.deeper (envOfC qual scope L' 188 cdv)) (execs body (envOfC qual scope L' 188 cdv)) R E' s := by
  have hd10 : A.depth + 10 < recursionLimit := by omega
  have hu3 : A.units + 300 < cLine := by omega
  show wpC _ _ (execs (body.drop 0) _) _ _ _
  refine chA53 (st := fun h1 tk1 _ _ _ => ⟨h1, s.gens, s.drawn, tk1, s.os⟩) 0 1 (law_b0 (Q := fun _ _ => True) (E := fun _ _ => True) (s := s) hdef G hh hl hi hn hd10 hu3 F N) fun h1 tk1 D o rn F1 N1 hro => ?_
  refine chA77 (st := fun h2 tk2 _ _ _ _ _ => ⟨h2, s.gens, s.drawn, tk2, s.os⟩) 1 1 (law_b1 (Q := fun _ _ => True) (E := fun _ _ => True) (s := ⟨h1, s.gens, s.drawn, tk1, s.os⟩) hdef G hh hd10 hu3 F1 N1 (.head _) hro) fun h2 tk2 T tv zt ds O F2 N2 hea hlo hhi hfr hfi => ?_
  clear F F1 N
  have cell_ne : ∀ {o' : Obj} {c : Option Value}, o'.data = .cell c → ∀ q : Obj, (∀ c, q.data ≠ .cell c) → q ≠ o' := fun h q hq z => hq _ (z ▸ h)
  have N3 : News g L' h2 ((L' + 1 + 1, op) :: (L' + 1, oh) :: ((T, lobj tv zt) :: (O ++ [(D, o), (60, tabObj #[]), (152, tabObj #[])]))) := fun p hp => N2 p (by
    simp only [List.mem_cons, List.mem_append, List.not_mem_nil, or_false] at hp ⊢
    rcases hp with h | h | h | h | h | h | h
    · exact .inr (.inr (.inr (.inl h)))
    · exact .inr (.inr (.inr (.inr (.inl h))))
    · exact .inl h
    · exact .inr (.inl h)
    · exact .inr (.inr (.inl h))
    · exact .inr (.inr (.inr (.inr (.inr (.inl h)))))
    · exact .inr (.inr (.inr (.inr (.inr (.inr h))))))
  obtain ⟨rv, zr, hro1, hro2⟩ := hro
  have hoff : ∀ p ∈ ((T, lobj tv zt) :: (O ++ [(D, o), (60, tabObj #[]), (152, tabObj #[])])), p.1 ≠ L' + 1 ∧ p.1 ≠ L' + 1 + 1 := by
    have c1' := (N1 (L' + 1, oh) (.tail _ (.tail _ (.head _)))).1
    have c2' := (N1 (L' + 1 + 1, op) (.tail _ (.head _))).1
    have fr : ∀ p ∈ (T, lobj tv zt) :: O, p.1 ≠ L' + 1 ∧ p.1 ≠ L' + 1 + 1 := fun p hp => by
      have z := hfr p hp
      constructor
      · intro q; rw [q] at z; rw [z] at c1'; cases c1'
      · intro q; rw [q] at z; rw [z] at c2'; cases c2'
    have ob : ∀ a q, (a, q) ∈ [(D, o), (60, tabObj #[]), (152, tabObj #[])] → (∀ c, q.data ≠ .cell c) → a ≠ L' + 1 ∧ a ≠ L' + 1 + 1 := fun a q hq hc =>
      ⟨ne_of_obj N3 (.tail _ (.tail _ (.tail _ (List.mem_append_right _ hq)))) (.tail _ (.head _)) (cell_ne e1 q hc), ne_of_obj N3 (.tail _ (.tail _ (.tail _ (List.mem_append_right _ hq)))) (.head _) (cell_ne e2 q hc)⟩
    intro p hp
    rcases List.mem_cons.mp hp with rfl | hp
    · exact fr _ (.head _)
    rcases List.mem_append.mp hp with hp | hp
    · exact fr p (.tail _ hp)
    · obtain ⟨a, q⟩ := p
      refine ob a q hp ?_
      simp only [List.mem_cons, List.not_mem_nil, or_false, Prod.mk.injEq] at hp
      rcases hp with ⟨_, rfl⟩ | ⟨_, rfl⟩ | ⟨_, rfl⟩
      · rw [hro1]; intro c h; cases h
      · intro c h; cases h
      · intro c h; cases h
  have hmD : (D, o) ∈ ((T, lobj tv zt) :: (O ++ [(D, o), (60, tabObj #[]), (152, tabObj #[])])) := .tail _ (List.mem_append_right _ (.head _))
  have hm60 : ((60 : Addr), tabObj #[]) ∈ ((T, lobj tv zt) :: (O ++ [(D, o), (60, tabObj #[]), (152, tabObj #[])])) := .tail _ (List.mem_append_right _ (.tail _ (.head _)))
  have hm152 : ((152 : Addr), tabObj #[]) ∈ ((T, lobj tv zt) :: (O ++ [(D, o), (60, tabObj #[]), (152, tabObj #[])])) := .tail _ (List.mem_append_right _ (.tail _ (.tail _ (.head _))))
  have th0 : ThingsAt w ((T, lobj tv zt) :: (O ++ [(D, o), (60, tabObj #[]), (152, tabObj #[])])) T tv ds := ⟨⟨zt, .head _⟩, ⟨O, hea, fun p hp => .tail _ (List.mem_append_left _ hp)⟩, hlo, hhi⟩
  clear N1 N2 hfr hea
  generalize ((T, lobj tv zt) :: (O ++ [(D, o), (60, tabObj #[]), (152, tabObj #[])])) = news0 at N3 hoff hmD hm60 hm152 th0
  have hro : RowAt D o rn := ⟨rv, zr, hro1, hro2⟩
  refine chA75 (st := fun h3 tk3 _ _ _ _ _ => ⟨h3, s.gens, s.drawn, tk3, s.os⟩) 2 2 (law_b2 (Q := fun _ _ => True) (E := fun _ _ => True) (s := ⟨h2, s.gens, s.drawn, tk2, s.os⟩) hdef G hh hd10 hu3 F2 N3 hoff e1 e2 hmD hro) fun h3 tk3 hs tht pa t21 ex F3 N4 H hok hlen => ?_
  clear F2 N3 hoff
  have H4 : HostAt L' (ex ++ news0) hs tht pa t21 := H.more fun p hp => List.mem_append_left _ hp
  replace hmD := List.mem_append_right ex hmD
  replace hm60 := List.mem_append_right ex hm60
  replace hm152 := List.mem_append_right ex hm152
  have th := th0.more (news' := ex ++ news0) fun p hp => List.mem_append_right _ hp
  clear th0 H
  generalize ex ++ news0 = news1 at N4 H4 hmD hm60 hm152 th
  refine chA43 (st := fun h4 tk4 _ _ => ⟨h4, s.gens, s.drawn, tk4, s.os⟩) 4 1 (law_b4 (Q := fun _ _ => True) (E := fun _ _ => True) (s := ⟨h3, s.gens, s.drawn, tk3, s.os⟩) hdef G hh hd10 hu3 F3 N4 th) fun h4 tk4 W ts F4 N5 hts => ?_
  have hmod : ∀ {h : Heap} {news : List (Addr × Obj)}, News g L' h news → ∀ p ∈ news, p.1 ≠ sysModules := fun N p hp q => by
    obtain ⟨o, ho⟩ := hm1
    have := (N p hp).2.2
    rw [q, ho] at this; cases this
  have th1 := th.more (news' := (W, LCg.lst (strValues ts)) :: news1) fun p hp => .tail _ hp
  refine chA22 (st := fun h5 tk5 => ⟨h5, s.gens, s.drawn, tk5, s.os⟩) 5 1 (law_b5 (Q := fun _ _ => True) (E := fun _ _ => True) (s := ⟨h4, s.gens, s.drawn, tk4, s.os⟩) hdef G hh hgu hd10 hu3 F4 N5 th1 (hmod N5) (.head _) hts) fun h5 tk5 F5 N6 => ?_
  refine chA22 (st := fun h6 tk6 => ⟨h6, s.gens, s.drawn, tk6, s.os⟩) 6 1 (law_b6 (Q := fun _ _ => True) (E := fun _ _ => True) (s := ⟨h5, s.gens, s.drawn, tk5, s.os⟩) hdef G hh hgu hd10 hu3 F5 N6 th1 (hmod N6) (.head _) hts) fun h6 tk6 F6 N7 => ?_
  refine chA43 (st := fun h7 tk7 _ _ => ⟨h7, s.gens, s.drawn, tk7, s.os⟩) 7 1 (law_b7 (Q := fun _ _ => True) (E := fun _ _ => True) (s := ⟨h6, s.gens, s.drawn, tk6, s.os⟩) hdef G hh hgu hd10 hu3 F6 N7 th1 (hmod N7)) fun h7 tk7 LO tl F7 N8 htl => ?_
  have th2 := th1.more (news' := (LO, LCg.lst (strValues tl)) :: (W, LCg.lst (strValues ts)) :: news1) fun p hp => .tail _ hp
  refine chA43 (st := fun h8 tk8 _ _ => ⟨h8, s.gens, s.drawn, tk8, s.os⟩) 8 1 (law_b8 (Q := fun _ _ => True) (E := fun _ _ => True) (s := ⟨h7, s.gens, s.drawn, tk7, s.os⟩) hdef G hh hgu hd10 hu3 F7 N8 th2 (hmod N8)) fun h8 tk8 SH tsh F8 N9 htsh => ?_
  have hasc : ∀ x ∈ ts.map (·.1), Asc x ∧ x.length ≤ 400 := by rw [hts]; exact th.asc
  have hcount : ts.length = tv.length := by have := congrArg List.length hts; simpa [th.length] using this
  have hcl : tl.length = tv.length := by have := congrArg List.length htl; simpa [th.length] using this
  have hcs : tsh.length = tv.length := by have := congrArg List.length htsh; simpa [th.length] using this
  have hascL : ∀ r ∈ tl.map (·.1), Asc r ∧ r.length ≤ 500 := by
    rw [htl]; intro r hr
    obtain ⟨x, hx, rfl⟩ := List.mem_map.mp hr
    exact long_asc (th.asc x hx).1 (th.asc x hx).2
  have hascS : ∀ r ∈ tsh.map (·.1), Asc r ∧ r.length ≤ 500 := by
    rw [htsh]; intro r hr
    obtain ⟨x, hx, rfl⟩ := List.mem_map.mp hr
    exact cut_asc (th.asc x hx).1 (th.asc x hx).2
  have hnoL : ∀ r ∈ tl.map (·.1), parseF r ≠ .reply := by
    rw [htl]; intro r hr
    obtain ⟨x, hx, rfl⟩ := List.mem_map.mp hr
    exact long_no x
  refine chA54 (st := fun h9 tk9 _ _ _ => ⟨h9, s.gens, s.drawn, tk9, s.os⟩) 9 1 (law_b9 (ds := ds) (Q := fun _ _ => True) (E := fun _ _ => True) (s := ⟨h8, s.gens, s.drawn, tk8, s.os⟩) hdef G hh hd10 hu3 F8 N9 (.tail _ (.tail _ (.head _))) hasc (by omega) (by omega)) fun h9 tk9 SP sp zz F9 N10 hsp hspl => ?_
  have H10 : HostAt L' ((SP, lobj (strValues sp) zz) :: (SH, LCg.lst (strValues tsh)) :: (LO, LCg.lst (strValues tl)) :: (W, LCg.lst (strValues ts)) :: news1) hs tht pa t21 := H4.more fun p hp => .tail _ (.tail _ (.tail _ (.tail _ hp)))
  refine chC34 (st := fun _ h10 tk10 => ⟨h10, s.gens, s.drawn, tk10, s.os⟩) 10 1 (law_b10 (Q := fun _ _ => True) (E := fun _ _ => True) (s := ⟨h9, s.gens, s.drawn, tk9, s.os⟩) hdef G hh XB TB hd10 hu3 F9 N10 (.tail _ (.tail _ (.head _))) (.tail _ (.head _)) (.head _) (by omega) (by omega) (by omega) hascL hascS hsp H10 hok) fun g10 h10 tk10 Tn10 G10 F10 N11 => ?_
  refine chA42 (st := fun h11 tk11 _ _ => ⟨h11, s.gens, s.drawn, tk11, s.os⟩) 11 1 (law_b11 (Q := fun _ _ => True) (E := fun _ _ => True) (s := ⟨h10, s.gens, s.drawn, tk10, s.os⟩) hdef G10 hh hd10 hu3 F10 N11 (.tail _ (.tail _ (.head _))) (by omega)) fun h11 tk11 TU zu F11 N12 => ?_
  have etu : strValues (tl.drop 6) ++ strValues (tl.take 6) = strValues (tl.drop 6 ++ tl.take 6) := by simp [strValues]
  rw [etu] at N12
  have H12 := H10.more (news' := (TU, lobj (strValues (tl.drop 6 ++ tl.take 6)) zu) :: (SP, lobj (strValues sp) zz) :: (SH, LCg.lst (strValues tsh)) :: (LO, LCg.lst (strValues tl)) :: (W, LCg.lst (strValues ts)) :: news1) fun p hp => .tail _ hp
  refine chA32 (st := fun h12 tk12 _ => ⟨h12, s.gens, s.drawn, tk12, s.os⟩) 12 1 (law_b12 (Q := fun _ _ => True) (E := fun _ _ => True) (s := ⟨h11, s.gens, s.drawn, tk11, s.os⟩) hdef G10 hh hd10 hu3 F11 N12 (.tail _ (.tail _ (.tail _ (.head _)))) (by omega) hascL H12) fun h12 tk12 GO F12 N13 => ?_
  have hus : ∀ q ∈ tl.filter okR, okR q = true := fun q hq => (List.mem_filter.mp hq).2
  have hsub : ∀ r ∈ (tl.filter okR).map (·.1), r ∈ tl.map (·.1) := fun r hr => by
    obtain ⟨q, hq, rfl⟩ := List.mem_map.mp hr
    exact List.mem_map.mpr ⟨q, (List.mem_filter.mp hq).1, rfl⟩
  have hok1 : ∀ r ∈ (tl.filter okR).map (·.1), Asc r ∧ r.length ≤ 500 ∧ ∃ n, parseF r = .ok n := fun r hr => by
    have a := hascL r (hsub r hr)
    obtain ⟨q, hq, rfl⟩ := List.mem_map.mp hr
    have k := hus q hq
    unfold okR at k
    rw [read_law a.1 a.2] at k
    refine ⟨a.1, a.2, ?_⟩
    cases z : parseF q.1 <;> rw [z] at k <;> simp at k
    exact ⟨_, rfl⟩
  have hr1 : ∀ r ∈ (tl.filter okR).map (·.1), Asc r ∧ r.length ≤ 500 ∧ parseF r ≠ .reply := fun r hr => ⟨(hok1 r hr).1, (hok1 r hr).2.1, hnoL r (hsub r hr)⟩
  have hr2 : ∀ r ∈ (tl.drop 6 ++ tl.take 6).map (·.1), Asc r ∧ r.length ≤ 500 ∧ parseF r ≠ .reply := fun r hr => by
    have hm : r ∈ tl.map (·.1) := by
      obtain ⟨q, hq, rfl⟩ := List.mem_map.mp hr
      rcases List.mem_append.mp hq with hq | hq
      · exact List.mem_map.mpr ⟨q, List.mem_of_mem_drop hq, rfl⟩
      · exact List.mem_map.mpr ⟨q, List.mem_of_mem_take hq, rfl⟩
    exact ⟨(hascL r hm).1, (hascL r hm).2, hnoL r hm⟩
  have h2us : 2 ≤ (tl.filter okR).length := by
    obtain ⟨dr, rfl⟩ := hfi
    match tl, htl with
    | [], htl => simp at htl
    | [_], htl => simp at htl
    | q0 :: q1 :: tr, htl =>
      simp only [List.map_cons, List.cons.injEq] at htl
      have k0 : okR q0 = true := by unfold okR; rw [htl.1]; exact read_d0
      have k1 : okR q1 = true := by unfold okR; rw [htl.2.1]; exact read_d1
      rw [List.filter_cons_of_pos k0, List.filter_cons_of_pos k1]
      simp
  have hle : (tl.filter okR).length ≤ tl.length := List.length_filter_le _ _
  have hn1 : tl.filter okR ≠ [] := fun z => by rw [z] at h2us; simp at h2us
  have hn2 : tl.drop 6 ++ tl.take 6 ≠ [] := fun z => by
    have := congrArg List.length z
    rw [List.length_append, List.length_drop, List.length_take, List.length_nil] at this
    omega
  generalize tl.filter okR = us at N13 hus hok1 hr1 h2us hle hn1
  obtain ⟨oh2, op2, zt2, hmh, hmp, hdh, hdp, htu⟩ := H12
  have m5 : ∀ p ∈ news1, p ∈ (GO, LCg.lst (strValues us)) :: (TU, lobj (strValues (tl.drop 6 ++ tl.take 6)) zu) :: (SP, lobj (strValues sp) zz) :: (SH, LCg.lst (strValues tsh)) :: (LO, LCg.lst (strValues tl)) :: (W, LCg.lst (strValues ts)) :: news1 := fun p hp => .tail _ (.tail _ (.tail _ (.tail _ (.tail _ (.tail _ hp)))))
  have x152 := N13 _ (m5 _ hm152)
  have x60 := N13 _ (m5 _ hm60)
  have N14 : News g10 L' h12 [(GO, LCg.lst (strValues us)), (TU, lobj (strValues (tl.drop 6 ++ tl.take 6)) zu), (SH, LCg.lst (strValues tsh)), (D, o), (L' + 1, oh2), (L' + 1 + 1, op2), (pa, { cls := .type "tuple", data := .seq #[.str hs tht, .int 21 t21] zt2 }), (60, tabObj #[])] :=
    am_cons (N13 _ (.head _)) (am_cons (N13 _ (.tail _ (.head _))) (am_cons (N13 _ (.tail _ (.tail _ (.tail _ (.head _))))) (am_cons (N13 _ (m5 _ hmD)) (am_cons (N13 _ (.tail _ hmh)) (am_cons (N13 _ (.tail _ hmp)) (am_cons (N13 _ (.tail _ htu)) (am_cons (x60) (am_nil))))))))
  clear N13
  have dif : ∀ (a b : Addr) (q : Obj) (ps : Array Value) {h : Heap}, h.get? a = some q → h.get? b = some (tabObj ps) → (∀ vs, q.data ≠ .fields vs) → a ≠ b := fun a b q ps h e1 e2 hq z => by
    subst z
    rw [e1] at e2
    exact hq ps (by rw [Option.some.inj e2])
  have dO : ∀ vs, o.data ≠ .fields vs := by rw [hro1]; intro _ z; cases z
  have dH : ∀ vs, oh2.data ≠ .fields vs := by rw [hdh]; intro _ z; cases z
  have dP : ∀ vs, op2.data ≠ .fields vs := by rw [hdp]; intro _ z; cases z
  have hne152 : ∀ p ∈ [(GO, LCg.lst (strValues us)), (TU, lobj (strValues (tl.drop 6 ++ tl.take 6)) zu), (SH, LCg.lst (strValues tsh)), (D, o), (L' + 1, oh2), (L' + 1 + 1, op2), (pa, ({ cls := .type "tuple", data := .seq #[.str hs tht, .int 21 t21] zt2 } : Obj)), ((60 : Addr), tabObj #[])], p.1 ≠ 152 :=
    am_cons (dif _ _ _ _ (N14 _ (.head _)).1 x152.1 (fun _ z => by cases z)) (am_cons (dif _ _ _ _ (N14 _ (.tail _ (.head _))).1 x152.1 (fun _ z => by cases z)) (am_cons (dif _ _ _ _ (N14 _ (.tail _ (.tail _ (.head _)))).1 x152.1 (fun _ z => by cases z)) (am_cons (dif _ _ _ _ (N14 _ (.tail _ (.tail _ (.tail _ (.head _))))).1 x152.1 dO) (am_cons (dif _ _ _ _ (N14 _ (.tail _ (.tail _ (.tail _ (.tail _ (.head _)))))).1 x152.1 dH) (am_cons (dif _ _ _ _ (N14 _ (.tail _ (.tail _ (.tail _ (.tail _ (.tail _ (.head _))))))).1 x152.1 dP) (am_cons (dif _ _ _ _ (N14 _ (.tail _ (.tail _ (.tail _ (.tail _ (.tail _ (.tail _ (.head _)))))))).1 x152.1 (fun _ z => by cases z)) (am_cons (by decide) (am_nil))))))))
  refine chC35 (st := fun _ h13 tk13 => ⟨h13, s.gens, s.drawn, tk13, s.os⟩) 13 1 (law_b13 (Q := fun _ _ => True) (E := fun _ _ => True) (s := ⟨h12, s.gens, s.drawn, tk12, s.os⟩) hdef G10 hh XB TB hd10 hu3 F12 N14 x152.2.2 (Ne.symm x152.2.1) hne152 (.inl x152.1) (.head _) (.tail _ (.head _)) hr1 hr2 hn1 hn2 ⟨oh2, op2, zt2, .tail _ (.tail _ (.tail _ (.tail _ (.head _)))), .tail _ (.tail _ (.tail _ (.tail _ (.tail _ (.head _))))), hdh, hdp, .tail _ (.tail _ (.tail _ (.tail _ (.tail _ (.tail _ (.head _))))))⟩ hok) fun g13 h13 tk13 Tn13 G13 F13 N15 tab13 => ?_
  obtain ⟨qs, y152⟩ : ∃ qs, h13.get? 152 = some (tabObj qs) := by rcases tab13 with h | ⟨c', h, _⟩ <;> exact ⟨_, h⟩
  have y60 := N15 _ (.tail _ (.tail _ (.tail _ (.tail _ (.tail _ (.tail _ (.tail _ (.head _))))))))
  have N16 : News g13 L' h13 [((152 : Addr), tabObj qs), (GO, LCg.lst (strValues us)), (SH, LCg.lst (strValues tsh)), (D, o), (L' + 1, oh2), (L' + 1 + 1, op2), (pa, { cls := .type "tuple", data := .seq #[.str hs tht, .int 21 t21] zt2 })] :=
    am_cons (⟨y152, x152.2.1, Tn13.none_ _ x152.2.2⟩) (am_cons (N15 _ (.head _)) (am_cons (N15 _ (.tail _ (.tail _ (.head _)))) (am_cons (N15 _ (.tail _ (.tail _ (.tail _ (.head _))))) (am_cons (N15 _ (.tail _ (.tail _ (.tail _ (.tail _ (.head _)))))) (am_cons (N15 _ (.tail _ (.tail _ (.tail _ (.tail _ (.tail _ (.head _))))))) (am_cons (N15 _ (.tail _ (.tail _ (.tail _ (.tail _ (.tail _ (.tail _ (.head _)))))))) (am_nil)))))))
  clear N14 N15
  have hne60 : ∀ p ∈ [((152 : Addr), tabObj qs), (GO, LCg.lst (strValues us)), (SH, LCg.lst (strValues tsh)), (D, o), (L' + 1, oh2), (L' + 1 + 1, op2), (pa, ({ cls := .type "tuple", data := .seq #[.str hs tht, .int 21 t21] zt2 } : Obj))], p.1 ≠ 60 :=
    am_cons ((show ((152 : Nat) ≠ 60) from by decide)) (am_cons (dif _ _ _ _ (N16 _ (.tail _ (.head _))).1 y60.1 (fun _ z => by cases z)) (am_cons (dif _ _ _ _ (N16 _ (.tail _ (.tail _ (.head _)))).1 y60.1 (fun _ z => by cases z)) (am_cons (dif _ _ _ _ (N16 _ (.tail _ (.tail _ (.tail _ (.head _))))).1 y60.1 dO) (am_cons (dif _ _ _ _ (N16 _ (.tail _ (.tail _ (.tail _ (.tail _ (.head _)))))).1 y60.1 dH) (am_cons (dif _ _ _ _ (N16 _ (.tail _ (.tail _ (.tail _ (.tail _ (.tail _ (.head _))))))).1 y60.1 dP) (am_cons (dif _ _ _ _ (N16 _ (.tail _ (.tail _ (.tail _ (.tail _ (.tail _ (.tail _ (.head _)))))))).1 y60.1 (fun _ z => by cases z)) (am_nil)))))))
  refine chA32 (st := fun h14 tk14 _ => ⟨h14, s.gens, s.drawn, tk14, s.os⟩) 14 1 (law_b14 (Q := fun _ _ => True) (E := fun _ _ => True) (s := ⟨h13, s.gens, s.drawn, tk13, s.os⟩) hdef G13 hh hd (by omega) F13 N16 y60.2.2 (Ne.symm y60.2.1) hne60 y60.1 (.tail _ (.head _)) hok1 h2us (by omega)) fun h14 tk14 cC F14 N17 => ?_
  have hascU : ∀ r ∈ us.map (·.1), Asc r ∧ r.length ≤ 500 := fun r hr => ⟨(hok1 r hr).1, (hok1 r hr).2.1⟩
  refine chA53 (st := fun h15 tk15 _ _ _ => ⟨h15, s.gens, s.drawn, tk15, s.os⟩) 15 1 (law_b15 (Q := fun _ _ => True) (E := fun _ _ => True) (s := ⟨h14, s.gens, s.drawn, tk14, s.os⟩) hdef G13 hh hd10 hu3 F14 N17 (.tail _ (.tail _ (.head _))) (by omega) hascU hus ⟨oh2, op2, zt2, .tail _ (.tail _ (.tail _ (.tail _ (.tail _ (.head _))))), .tail _ (.tail _ (.tail _ (.tail _ (.tail _ (.tail _ (.head _)))))), hdh, hdp, .tail _ (.tail _ (.tail _ (.tail _ (.tail _ (.tail _ (.tail _ (.head _)))))))⟩) fun h15 tk15 WH ex1 vw F15 N18 P1 => ?_
  have lift : ∀ p, p ∈ ((60 : Addr), tabObj #[rawInt 28, rawInt 4, .ref cC]) :: [((152 : Addr), tabObj qs), (GO, LCg.lst (strValues us)), (SH, LCg.lst (strValues tsh)), (D, o), (L' + 1, oh2), (L' + 1 + 1, op2), (pa, ({ cls := .type "tuple", data := .seq #[.str hs tht, .int 21 t21] zt2 } : Obj))] → p ∈ (WH, LCg.lst vw) :: (ex1 ++ (((60 : Addr), tabObj #[rawInt 28, rawInt 4, .ref cC]) :: [((152 : Addr), tabObj qs), (GO, LCg.lst (strValues us)), (SH, LCg.lst (strValues tsh)), (D, o), (L' + 1, oh2), (L' + 1 + 1, op2), (pa, ({ cls := .type "tuple", data := .seq #[.str hs tht, .int 21 t21] zt2 } : Obj))])) := fun p hp => .tail _ (List.mem_append_right _ hp)
  have hvl : vw.length ≤ 100 := by
    have z := (P1 h15 fun p hp => (N18 p (.tail _ (List.mem_append_left _ hp))).1).length
    rw [z, List.length_map]
    omega
  refine chA64 (st := fun h16 tk16 _ _ _ _ => ⟨h16, s.gens, s.drawn, tk16, s.os⟩) 16 1 (law_b16 (Q := fun _ _ => True) (E := fun _ _ => True) (s := ⟨h15, s.gens, s.drawn, tk15, s.os⟩) hdef G13 hh hd10 hu3 F15 N18 (lift _ (.tail _ (.tail _ (.tail _ (.head _))))) (by omega) hascS ⟨oh2, op2, zt2, lift _ (.tail _ (.tail _ (.tail _ (.tail _ (.tail _ (.head _)))))), lift _ (.tail _ (.tail _ (.tail _ (.tail _ (.tail _ (.tail _ (.head _))))))), hdh, hdp, lift _ (.tail _ (.tail _ (.tail _ (.tail _ (.tail _ (.tail _ (.tail _ (.head _))))))))⟩ (lift _ (.tail _ (.tail _ (.tail _ (.tail _ (.head _)))))) hro) fun h16 tk16 KP ex2 vk xs2 F16 N19 P2 hkl => ?_
  refine chainA 17 1 (wpAny_mono (law_b17 (Q := fun _ _ => True) (E := fun _ _ => True) hdef G13 hh XB TB hd10 hu3 F16 N19 (.tail _ (List.mem_append_right _ (.head _))) (.head _) P1 P2 (fun p hp => .tail _ (List.mem_append_right _ (.tail _ (List.mem_append_left _ hp)))) (fun p hp => .tail _ (List.mem_append_left _ hp)) hok hvl (by omega)) (fun f s' q => ?_) fun _ _ z => z.elim)
  obtain ⟨rfl, g17, h17, tk17, m17, rfl, Tn17, G17, F17, N20⟩ := q.it
  exact ret g17 h17 tk17 m17 _ _ ((Tn10.trans Tn13).trans Tn17) F17 (N20 _ (.tail _ (List.mem_append_right _ (lift _ (.head _))))).1 (N20 _ (.tail _ (List.mem_append_right _ (lift _ (.tail _ (.head _)))))).1
end Mine
end

section
namespace Mine
set_option maxRecDepth 100000
set_option maxHeartbeats 1000000
set_option linter.all false
theorem enterDX {prog : Program} {w : World} {A : Around} {s : Shared} {K : Frag} {R : Result → Shared → Prop} {p : Program} {loose : List Str} {mean : ExcName → Option Value} {mg mb : Str → Option Value}
  {name qual : Str} {params : Arguments} {body : List Stmt} {scope : Scope} {dV kV doc pm cdv ct oc : Value} {an od : Option Addr} {osl : Array (Option Value)} {f : Addr} {args : List Value} {binds : List (Str × Value)} (X₀ : K.In s.heap) (T : Top p loose mean mg mb s.heap)
    (ho : K.lookup f = some ⟨oc, od, .func (fnOf name qual params body scope dV kV doc pm an cdv ct), osl⟩) (hcd : codeIn K cdv qual = true) (hroom : A.depth < recursionLimit)
    (hbind : BindsTo s (fnOf name qual params body scope dV kV doc pm an cdv ct) ⟨args, []⟩ binds)
    (hkind : ∀ n, ∀ x ∈ binds, scope.names.lookup x.1 = some .local ∨ (scope.names.lookup x.1 = some .cell ∧ ((cellsFrom n scope.names []).lookup x.1).isSome = true))
    (hnd : ((cellsFrom 0 scope.names []).map (·.1)).Nodup)
    (h : ∀ L' h₁ tk cells, Fr s.heap L' h₁ (bindL (envOfC qual scope L' f cdv).kindOf binds fun _ => none) → News s.heap L' h₁ cells →
      CellsAre (bindC (envOfC qual scope L' f cdv).kindOf binds fun _ => none) (cellsFrom (L' + 1) scope.names []) cells →
      wpC (model prog w) (A.deeper (envOfC qual scope L' f cdv)) (execs body (envOfC qual scope L' f cdv))
        (fun fl s' => R (.ok (.ret (match fl with | .ret v => v | _ => .none))) s')
        (fun e s' => wpAny (model prog w) (A.deeper (envOfC qual scope L' f cdv)) (leaving (envOfC qual scope L' f cdv) e) (fun _ s'' => R (.error e) s'') (fun e' s'' => R (.error e') s'') s')
        { s with heap := h₁, toks := tk })
    (hco : scope.isCoroutine = false) (hgen : scope.isGenerator = false) (hk : scope.kind = .function) : codeC (model prog w) A (.call (.ref f) ⟨args, []⟩) R s := by
  refine codeC_call_function hroom (X₀ _ _ ho) rfl hco hgen rfl (codeRec_of X₀ hcd) (hbind _ _ _ _ ?_)
  refine wpAny_newFunctionEnv_cells hk (hkind _) fun env' he s' x => ?_
  subst he
  refine ⟨T.nolimit.keeps x.toInCall.keep, codeC_func ?_⟩
  obtain ⟨h₁, tk, rfl, _⟩ := x.done
  have hk₁ := x.toInCall.keep
  obtain ⟨cells, NC, Y⟩ := Cl.news (h₀ := s.heap) (Nat.le_refl _) fun n c hm => ⟨x.cell n c (lookup_of_mem_nodup (cellsFrom_names scope.names 0 (s.heap.objs.size + 1) [] [] rfl ▸ hnd) hm), x.above n c hm⟩
  exact h s.heap.objs.size h₁ tk cells ⟨x.toInCall.ns, hk₁, Nat.le_refl _⟩ NC Y
theorem law_spec {w : World} {s : Shared} {mg mb : Str → Option Value} {mean : ExcName → Option Value} {R : Result → Shared → Prop} {l : Addr} {vs : List Value} {ns : List Int}
   (X : (Mine.KC w.params).In s.heap) (T : Top EMP LS mean mg mb s.heap) (h60 : s.heap.get? 60 = some (tabObj #[])) (h152 : s.heap.get? 152 = some (tabObj #[])) (hl : s.heap.IsList l vs.toArray) (hi : IntsAre vs ns) (hn : ns.length ≤ 63)
   (ret : ∀ h tk ps qs, (∀ b o, s.heap.get? b = some o → b ≠ 60 → b ≠ 152 → h.get? b = some o) → h.get? 60 = some (tabObj ps) → h.get? 152 = some (tabObj qs) → R (.ok (.ret (.bool true))) { s with heap := h, toks := tk }) :
   codeC (model PROG w) callerA (.call (.ref 188) ⟨[.ref l], []⟩) R s := by
  have hfill : (fun (_ : OpenLaw) (_ : Params → Frag) => True) PySem.Challenge.rw_nq0040_01 Mine.KC := by (k_fill; trivial)
  clear hfill
  w_top off
  have hroom : callerA.depth + 20 < recursionLimit := by decide +kernel
  have hunits : callerA.units + 500 < cLine := by decide +kernel
  k_dflt (refine' enterDX (binds := [(Str.ofString "script", .ref l)]) ?k2 ?k3 ?k6 ?k7 ?k8 ?k9 ?kB ?kN ?_ ?c2 ?c3 ?c4; (case k2 => assumption); (case k3 => assumption); (case k6 => k_is); (case k7 => k_is); (case k8 => omega); (case k9 => first | exact BindsTo.of_eq rfl | exact binds_K (by assumption) rfl (by k_is) rfl rfl rfl); (case kN => decide +kernel); (case kB => exact kindsX rfl); (case c2 => exact rfl); (case c3 => exact rfl); (case c4 => exact rfl); k_whole)
  intro L' h' tk' cells' F' N' Y'
  k_cells Y'
  (try simp only [List.cons_append, List.nil_append] at N')
  try dsimp only
  try k_fold
  have G := ground_of X T h60 h152
  have F0 : Fr (hideAll s.heap [60, 152]) L' h' _ := ⟨F'.ns, fun b o e => F'.keep b o (of_hideAll _ e), Nat.le_trans (Nat.le_of_eq (hideAll_size _ _)) F'.above⟩
  rename_i op oh d1' d2'
  have hL60 : (60 : Addr) ≠ L' := Nat.ne_of_lt (Nat.lt_of_lt_of_le (Heap.lt_size h60) F'.above)
  have hL152 : (152 : Addr) ≠ L' := Nat.ne_of_lt (Nat.lt_of_lt_of_le (Heap.lt_size h152) F'.above)
  have gno : ∀ b, s.heap.get? b = none → (hideAll s.heap [60, 152]).get? b = none := fun b e => by
    cases q : (hideAll s.heap [60, 152]).get? b with
    | none => rfl
    | some o => rw [of_hideAll _ q] at e; cases e
  have N0 : News (hideAll s.heap [60, 152]) L' h' [(L' + 1 + 1, op), (L' + 1, oh), (60, tabObj #[]), (152, tabObj #[])] := by
    intro p hp
    simp only [List.mem_cons, List.not_mem_nil, or_false] at hp
    rcases hp with rfl | rfl | rfl | rfl
    · have z := N' _ (.head _); exact ⟨z.1, z.2.1, gno _ z.2.2⟩
    · have z := N' _ (.tail _ (.head _)); exact ⟨z.1, z.2.1, gno _ z.2.2⟩
    · exact ⟨F'.keep _ _ h60, hL60, hideAll_none _ (by simp)⟩
    · exact ⟨F'.keep _ _ h152, hL152, hideAll_none _ (by simp)⟩
  have hsm : ∃ o, (hideAll s.heap [60, 152]).get? sysModules = some o := by
    obtain ⟨o1, ho1⟩ := Option.isSome_iff_exists.mp (show ((KC w.params).lookup 1).isSome = true by kernel_rfl)
    exact ⟨o1, G.X 1 _ ho1⟩
  have hlg : (hideAll s.heap [60, 152]).IsList l vs.toArray := by
    obtain ⟨o, ho, hc, n, hd⟩ := hl
    refine ⟨o, hideAll_get _ ho ?_, hc, n, hd⟩
    simp only [List.mem_cons, List.not_mem_nil, or_false]
    rintro (rfl | rfl)
    · rw [h60] at ho; cases ho; cases hc
    · rw [h152] at ho; cases ho; cases hc
  refine' law_chain (s := { s with heap := h', toks := _ }) (Q := fun _ _ => True) (E := fun _ _ => True) ?hdef rfl G rfl rfl G.X G.T hroom hunits hlg hi hn (Fr.as F0 ?fr) N0 d2' d1' hsm ?_
  case hdef =>
    unfold LawDef
    exact ⟨_, _, _, _, _, _, _, _, _, _, _, lit_id (K := KC w.params) (f := 188) (by k_is)⟩
  case fr =>
    funext y
    by_cases hy : y = Str.ofString "script"
    · subst hy; rfl
    · simp only [bindL]
      rw [if_pos (by rfl)]
      simp [hy]
  intro g2 h tk m ps qs Tn F2 e60 e152
  refine ret h tk ps qs (fun b o e n1 n2 => F2.keep _ _ (Tn.other b o (hideAll_get _ e (by simp [n1, n2])) (fun hm => nomatch hm))) e60 e152
end Mine
end

section
namespace Mine
set_option maxRecDepth 100000
set_option maxHeartbeats 4000000
set_option linter.all false
theorem sub_LS {l : List Str} (h : (l.all fun y => LS.contains y) = true) {x : Str} (hx : x ∉ LS) : x ∉ l := fun hm => by
  have := List.all_eq_true.mp h x hm
  exact hx (List.contains_iff_mem.mp this)
theorem top_emp {mean : ExcName → Option Value} {mg mb : Str → Option Value} {h : Heap} (T : Top VW (looseW VW LO) mean mg mb h) : Top EMP LS mean mg mb h where
  g := T.g
  b := T.b
  nolimit := T.nolimit
  nodigits := T.nodigits
  fn := fun d hd => nomatch hd
  own := fun o ho => nomatch ho
  const := fun x d e => by cases e
  free := fun x h1 h2 _ _ _ => T.free x h1 (sub_LS (by decide +kernel) h2) (sub_LS (by decide +kernel) h2) (sub_LS (by decide +kernel) h2) (sub_LS (by decide +kernel) h2)
  builtins := T.builtins
  tab := fun d hd => nomatch hd
  bmain := T.bmain
  seer := fun _ => T.seer (by decide +kernel)
theorem old_of {h₀ h : Heap} {ps qs : Array Value} (k : ∀ b o, h₀.get? b = some o → b ≠ 60 → b ≠ 152 → h.get? b = some o) (h60 : h₀.get? 60 = some (tabObj #[])) (h152 : h₀.get? 152 = some (tabObj #[])) (e60 : h.get? 60 = some (tabObj ps)) (e152 : h.get? 152 = some (tabObj qs))
   (t60 : isCodeTable h₀ 60) (t152 : isCodeTable h₀ 152) : OldK h₀ h := by
  refine ⟨fun b o e => ?_, fun b o e => ?_⟩
  · by_cases b1 : b = 60
    · subst b1
      rw [h60] at e
      cases e
      exact .inr (.inl ⟨t60, rfl, #[], ps, rfl, by rw [Array.empty_append]; exact e60⟩)
    · by_cases b2 : b = 152
      · subst b2
        rw [h152] at e
        cases e
        exact .inr (.inl ⟨t152, rfl, #[], qs, rfl, by rw [Array.empty_append]; exact e152⟩)
      · exact .inl (k b o e b1 b2)
  · by_cases b1 : b = 60
    · subst b1; exact ⟨_, e60⟩
    · by_cases b2 : b = 152
      · subst b2; exact ⟨_, e152⟩
      · exact ⟨o, k b o e b1 b2⟩
theorem tab60 {w : World} {h : Heap} (X : (Mine.KC w.params).In h) : isCodeTable h 60 := by
  have hfill : (fun (_ : OpenLaw) (_ : Params → Frag) => True) PySem.Challenge.rw_nq0040_01 Mine.KC := by (k_fill; trivial)
  clear hfill
  w_top off
  have e : ∃ o, h.get? 64 = some o ∧ o.cls = .type "code" ∧ ∃ vs, o.data = .fields vs ∧ vs[11]? = some (.ref 60) := by
    refine ⟨_, X 64 _ (by k_is), ?_⟩
    exact ⟨rfl, _, rfl, rfl⟩
  obtain ⟨o, h1, h2, vs, h3, h4⟩ := e
  exact ⟨64, o, vs, h1, h2, h3, h4⟩
theorem tab152 {w : World} {h : Heap} (X : (Mine.KC w.params).In h) : isCodeTable h 152 := by
  have hfill : (fun (_ : OpenLaw) (_ : Params → Frag) => True) PySem.Challenge.rw_nq0040_01 Mine.KC := by (k_fill; trivial)
  clear hfill
  w_top off
  have e : ∃ o, h.get? 156 = some o ∧ o.cls = .type "code" ∧ ∃ vs, o.data = .fields vs ∧ vs[11]? = some (.ref 152) := by
    refine ⟨_, X 156 _ (by k_is), ?_⟩
    exact ⟨rfl, _, rfl, rfl⟩
  obtain ⟨o, h1, h2, vs, h3, h4⟩ := e
  exact ⟨156, o, vs, h1, h2, h3, h4⟩
theorem top_holds : PySem.Challenge.rw_nq0040_01.Holds := by
  refine Mine.hd ?_
  k_fill
  intro w s₀ s₁ mg mb G Y fa o pm cd doc dV kV ho hd hcd hD hmg hg args vals as hpre hlay hrd hwl hlo
  have KX := kIn_of Y
  have T := G.T
  wrow_args hpre hlay hrd hwl hlo
  all_goals (x_fa T KX hmg)
  all_goals (try all_lens)
  clear ho hd hcd hD hmg Y
  have X : (Mine.KC w.params).In s₁.heap := fun a o e => KX a o ((KC_less w.params).lookup e).1
  have h60 : s₁.heap.get? 60 = some (tabObj #[]) := KX 60 _ (by kernel_rfl)
  have h152 : s₁.heap.get? 152 = some (tabObj #[]) := KX 152 _ (by kernel_rfl)
  have t60 := tab60 X
  have t152 := tab152 X
  refine law_spec X (top_emp T) h60 h152 (by assumption) (by assumption) (by omega) fun h tk ps qs k e60 e152 => ?_
  refine ⟨.inl ⟨_, _, [], rfl, (fun _ => rfl), ReadsW.bool true, ?post, fun _ => ⟨List.nodup_nil, fun _ hm => nomatch hm⟩⟩, old_of k h60 h152 e60 e152 t60 t152, rfl, .of_eq hg⟩
  case post => wrow_post
end Mine
end
theorem PySem.Challenge.cw_nq0040_01_holds : PySem.Challenge.rw_nq0040_01.Holds :=
  Mine.top_holds
