import PyProof.Rows.All
import Wide.All
import OpenK.AllK
import Wide.FinOn
import PySem.Challenge.RW_ph0115_01
open PySem PySem.W PyProof.Rows PySem.Calls
set_option Elab.async false
set_option linter.all false
set_option maxRecDepth 100000
set_option maxHeartbeats 8000000
namespace Mine
section Cw
open PySem.Sem (wp)
/-- the claim's caller stands on the stack -/
noncomputable def callerIn (l : List (Code × Pos)) : Prop := (l.map (·.1)).any Code.isCaller = true
theorem callerIn_cons {c : Code} {p : Pos} {l : List (Code × Pos)} (h : callerIn l) : callerIn ((c, p) :: l) := by
  unfold callerIn at *
  rw [List.map_cons, List.any_cons, h, Bool.or_true]
noncomputable def hasC (Γ : Ctx) : Prop := ∀ p, callerIn ((Γ.code, p) :: Γ.below)

/-- wpAny, under the claim's caller -/
structure wpC {α : Type} (M : Model) (A : Around) (t : Sem α) (Q : α → Shared → Prop) (E : Value → Shared → Prop) (s : Shared) : Prop where
  run : ∀ Γ p, Γ.In A → hasC Γ → wp M Γ t (fun a _ s' => Q a s') (fun e _ s' => E e s') p s
structure codeC (M : Model) (A : Around) (c : Code) (R : Result → Shared → Prop) (s : Shared) : Prop where
  run : ∀ Γ p, Γ.code = c → Γ.Below A → callerIn Γ.below → wpCode M Γ R p s

section
variable {α β : Type} {M : Model} {A : Around} {E : Value → Shared → Prop} {s : Shared}
theorem wpC_of {t : Sem α} {Q : α → Shared → Prop} (h : wpAny M A t Q E s) : wpC M A t Q E s := ⟨fun Γ p hΓ _ => h Γ p hΓ⟩
theorem codeC_of {c : Code} {R : Result → Shared → Prop} (h : codeAny M A c R s) : codeC M A c R s := ⟨fun Γ p hc hΓ _ => h Γ p hc hΓ⟩
theorem wpC_mono {t : Sem α} {Q Q' : α → Shared → Prop} {E' : Value → Shared → Prop} (h : wpC M A t Q E s) (hQ : ∀ a s, Q a s → Q' a s) (hE : ∀ e s, E e s → E' e s) : wpC M A t Q' E' s :=
  ⟨fun Γ p hΓ hc => Sem.wp_mono M Γ t (fun a _ s => hQ a s) (fun e _ s => hE e s) p s (h.run Γ p hΓ hc)⟩
theorem codeC_mono {c : Code} {R R' : Result → Shared → Prop} (h : codeC M A c R s) (hR : ∀ r s, R r s → R' r s) : codeC M A c R' s := ⟨fun Γ p hc hΓ hk => wpCode_mono hR (h.run Γ p hc hΓ hk)⟩
theorem wpC_bind {m : Sem α} {f : α → Sem β} {Q : β → Shared → Prop} (h : wpC M A m (fun a s' => wpC M A (f a) Q E s') E s) : wpC M A (m >>= f) Q E s := ⟨fun Γ p hΓ hc => by
  rw [Sem.wp_bind']
  exact Sem.wp_mono M Γ m (fun a p' s' h' => h'.run Γ p' hΓ hc) (fun _ _ _ h' => h') p s (h.run Γ p hΓ hc)⟩
/-- a plain step, then on -/
theorem wpC_then {m : Sem α} {f : α → Sem β} {Q : β → Shared → Prop} (h : wpAny M A m (fun a s' => wpC M A (f a) Q E s') E s) : wpC M A (m >>= f) Q E s := wpC_bind (wpC_of h)
theorem wpC_pure {a : α} {Q : α → Shared → Prop} (h : Q a s) : wpC M A (pure a) Q E s := wpC_of (wpAny_pure h)
theorem wpC_holding {vs : List Value} {m : Sem α} {Q : α → Shared → Prop} (h : wpC M A m Q E s) : wpC M A (holding vs m) Q E s :=
  ⟨fun Γ p hΓ hc => by rw [Sem.wp_holding]; exact h.run Γ p hΓ hc⟩
theorem wpC_keep {vs : List Value} {m : Sem α} {Q : α → Shared → Prop} (h : wpC M A m Q E s) : wpC M A (m.keep vs) Q E s :=
  ⟨fun Γ p hΓ hc => by rw [Sem.wp_keep]; exact h.run Γ p hΓ hc⟩
theorem wpC_onRaise {m : Sem α} {k : Value → Sem Unit} {Q : α → Shared → Prop}
    (h : wpC M A m Q (fun e s' => wpC M A (k e) (fun _ s'' => E e s'') E s') s) : wpC M A (m.onRaise k) Q E s := ⟨fun Γ p hΓ hc => by
  rw [Sem.wp_onRaise]
  exact Sem.wp_mono M Γ m (fun _ _ _ h' => h') (fun e p' s' h' => h'.run Γ p' hΓ hc) p s (h.run Γ p hΓ hc)⟩
theorem wpC_attempt {m : Sem α} {Q : Except Value α → Shared → Prop} (h : wpC M A m (fun a => Q (.ok a)) (fun e => Q (.error e)) s) : wpC M A m.attempt Q E s := ⟨fun Γ p hΓ hc => by
  rw [Sem.wp_attempt]; exact h.run Γ p hΓ hc⟩
theorem wpC_stack {Q : List (Code × Pos) → Shared → Prop} (h : ∀ st, callerIn st → Q st s) : wpC M A stack Q E s := ⟨fun Γ p _ hc => h _ (hc p)⟩
theorem wpC_run {c : Code} {h : Option Value} {Q : Flow → Shared → Prop}
    (hc : codeC M (A.mark h) c (fun r s' => match r with | .ok f => Q f s' | .error e => E e s') s) (hnb : h ≠ some byPass := by intro x; cases x) : wpC M A (run c h) Q E s :=
  ⟨fun Γ p hΓ hk => by rw [Sem.wp_run]; exact hc.run _ p rfl (hΓ.enter c h p hnb) (hk p)⟩
theorem wpC_runValue {c : Code} {Q : Value → Shared → Prop}
    (hc : codeC M A c (fun r s' => match r with | .ok (.ret v) => Q v s' | .ok _ => False | .error e => E e s') s) : wpC M A (runValue c) Q E s :=
  ⟨fun Γ p hΓ hk => by rw [Sem.wp_runValue]; exact hc.run _ p rfl (hΓ.enter c none p (by intro x; cases x)) (hk p)⟩
theorem wpC_call {f : Value} {pos : List Value} {kw : List (Str × Value)} {Q : Value → Shared → Prop}
    (hc : codeC M A (.call f ⟨pos, kw⟩) (fun r s' => match r with | .ok (.ret v) => Q v s' | .ok _ => False | .error e => E e s') s) : wpC M A (call f pos kw) Q E s := wpC_runValue hc
theorem codeC_of_tree {c : Code} {R : Result → Shared → Prop}
    (h : wpC M (A.under c) (M.den c) (fun fin s' => match fin with | .done f => R (.ok f) s' | .again c' => c'.quiet = true ∧ codeC M A c' R s') (fun e s' => R (.error e) s') s) : codeC M A c R s := ⟨fun Γ p hc hΓ hk => by
  rw [wpCode_iff_wp, hc]
  refine Sem.wp_mono M Γ _ (fun fin p' s' h' => ?_) (fun _ _ _ h' => h') p s (h.run Γ p (hc ▸ hΓ.in) (fun q => callerIn_cons hk))
  cases fin with
  | done f => exact h'
  | again c' => exact ⟨h'.1, h'.2.run (Γ.goto c') p' rfl (hΓ.goto c') hk⟩⟩
theorem codeC_loop {c : Code} {R : Result → Shared → Prop} (hq : c.quiet = true) (I : Nat → Shared → Prop)
    (turn : ∀ n s, I n s → wpC M (A.under c) (M.den c) (fun fin s' => match fin with | .done f => R (.ok f) s' | .again c' => c' = c ∧ ∃ m, m < n ∧ I m s') (fun e s' => R (.error e) s') s)
    (n : Nat) (h : I n s) : codeC M A c R s := by
  induction n using Nat.strongRecOn generalizing s with
  | ind n ih =>
    refine codeC_of_tree (wpC_mono (turn n s h) (fun fin s' hf => ?_) fun _ _ h' => h')
    cases fin with
    | done f => exact hf
    | again c' => obtain ⟨rfl, m, hm, hI⟩ := hf; exact ⟨hq, ih m hm hI⟩
end

section
variable {prog : Program} {w : World} {A : Around} {E : Value → Shared → Prop} {s : Shared} {env : Env}
theorem C_execs_nil {M : Model} {Q : Flow → Shared → Prop} (h : Q .next s) : wpC M A (execs [] env) Q E s := wpC_of (wpAny_execs_nil h)
theorem C_execs_cons {M : Model} {st : Stmt} {rest : List Stmt} {Q : Flow → Shared → Prop}
    (h : wpC M A (exec st env) (fun f s' => match f with | .next => wpC M A (execs rest env) Q E s' | f => Q f s') E s) : wpC M A (execs (st :: rest) env) Q E s := ⟨fun Γ p hΓ hc => by
  rw [execs_cons, Sem.wp_bind']
  refine Sem.wp_mono M Γ _ (fun f p' s' h' => ?_) (fun _ _ _ h' => h') _ _ (h.run Γ p hΓ hc)
  cases f <;> first | exact h'.run Γ p' hΓ hc | exact h'⟩
/-- a statement that is walked whole, then on -/
theorem C_step {M : Model} {st : Stmt} {rest : List Stmt} {Q : Flow → Shared → Prop}
    (h : wpAny M A (exec st env) (fun f s' => match f with | .next => wpC M A (execs rest env) Q E s' | f => Q f s') E s) : wpC M A (execs (st :: rest) env) Q E s := C_execs_cons (wpC_of h)
theorem C_If {M : Model} {test : PySem.Expr} {body orelse : List Stmt} {pos : Pos} {Q : Flow → Shared → Prop}
    (h : wpC M A (isTrue test env (eval test env)) (fun b s₂ => if b then wpC M A (execs body env) Q E s₂ else wpC M A (execs orelse env) Q E s₂) E s) : wpC M A (exec (.If test body orelse pos) env) Q E s := by
  rw [exec_If]
  refine wpC_then (wpAny_standAt (wpC_bind (wpC_mono h (fun b s₂ h₂ => ?_) fun _ _ x => x)))
  cases b <;> exact h₂
theorem C_isTrue_Compare1 {M : Model} {l r : PySem.Expr} {op : CmpOp} {pos : Pos} {whole : Sem Value} {Q : Bool → Shared → Prop}
    (h : wpC M A (eval l env) (fun a s₁ => wpC M A (eval r env) (fun b s₂ => wpAny M A (compareOp op a b) (fun c s₃ => wpAny M A (truthy c) Q E s₃) E s₂) E s₁) E s)
    (hm : behindInMarks op r = false := by with_unfolding_all rfl) : wpC M A (isTrue (.Compare l [op] [r] pos) env whole) Q E s := ⟨fun Γ p hΓ hc => by
  simp only [isTrue_Compare1, markedBehindIn_of_false hm, Sem.wp_bind', Sem.wp_holding, Sem.wp_cmd_standAt, Sem.wp_operate]
  exact Sem.wp_mono M Γ _ (fun a p₁ s₁ h₁ => Sem.wp_mono M Γ _ (fun b _ s₂ h₂ => Sem.wp_mono M Γ _ (fun c p₃ s₃ h₃ => h₃ Γ p₃ hΓ)
    (fun _ _ _ h' => h') _ _ (h₂ Γ _ hΓ)) (fun _ _ _ h' => h') _ _ (h₁.run Γ p₁ hΓ hc)) (fun _ _ _ h' => h') _ _ (h.run Γ p hΓ hc)⟩
theorem C_Assign_Name {M : Model} {x : Str} {pos' pos : Pos} {value : PySem.Expr} {Q : Flow → Shared → Prop}
    (h : wpC M A (eval value env) (fun v s₁ => wpAny M A (storeName env x v) (fun _ => Q .next) E s₁) E s)
    (hs : swapsWith value (some (.Name x pos')) pos.line env = pure false := by rfl) : wpC M A (exec (.Assign [.Name x pos'] value pos) env) Q E s := ⟨fun Γ p hΓ hc => by
  simp only [exec_Assign_Name env x pos' value pos hs, Sem.wp_bind', Sem.wp_cmd_standAt, Sem.wp_bindName, Sem.wp_pure']
  exact Sem.wp_mono M Γ _ (fun v _ s₁ h₁ => h₁ Γ _ hΓ) (fun _ _ _ h' => h') _ _ (h.run Γ _ hΓ hc)⟩
theorem C_Return_some {M : Model} {e : PySem.Expr} {pos : Pos} {Q : Flow → Shared → Prop} (h : wpC M A (eval e env) (fun v => Q (.ret v)) E s) :
    wpC M A (exec (.Return (some e) pos) env) Q E s := ⟨fun Γ p hΓ hc => by
  simp only [exec_Return_some, Sem.wp_bind', Sem.wp_cmd_standAt, Sem.wp_pure']; exact h.run Γ _ hΓ hc⟩
theorem C_runOwn {M : Model} {c : Code} {h : Option Value} {Q : Flow → Shared → Prop}
    (hc : codeC M (A.mark h) c (fun r s' => match r with | .ok f => Q f s' | .error _ => False) s) (hnb : h ≠ some byPass := by intro x; cases x) : wpC M A (runOwn c env h) Q E s := by
  unfold runOwn
  exact wpC_onRaise (wpC_run (codeC_mono hc fun r s' h' => by cases r with | ok f => exact h' | error e => exact h'.elim) hnb)
end
end Cw
section Hc
open PySem.Spec
/-- the bridge: what is shown under the claim's caller, of the very thread -/
theorem caller_has : hasC (⟨.builtin "claim.caller" {}, none, none, [], none⟩ : _root_.PySem.Ctx) := fun _ => rfl
theorem thread_endsC {prog : Program} {w : World} {t : Sem Fin} {s : Shared} {R : Result → Shared → Prop} (hreg : s.asleep)
    (h : wpC (model prog w) callerA t (fun fin s' => ∃ f, fin = .done f ∧ (R (.ok f) s' ∧ leftWithCleanup s'.gens = false)) (fun e s' => R (.error e) s' ∧ leftWithCleanup s'.gens = false) s) :
    ∃ n r s' s'', runN (denote table) prog w n s ⟨t, .builtin "claim.caller" {}, default, []⟩ = .halted (outcomeOf r) s' ∧
      schedN (denote table) prog w n (.single s ⟨t, .builtin "claim.caller" {}, default, []⟩) = .halted (outcomeOf r) s' ∧ s'.forget = s''.forget ∧ R r s'' := by
  have q : Sem.wp (model prog w) ⟨.builtin "claim.caller" {}, none, none, [], none⟩ t (Sem.finPost (model prog w) ⟨.builtin "claim.caller" {}, none, none, [], none⟩ fun r s' => R r s' ∧ leftWithCleanup s'.gens = false)
      (fun e _ s' => R (.error e) s' ∧ leftWithCleanup s'.gens = false) default s := by
    refine Sem.wp_mono _ _ t (fun fin p' s' h' => ?_) (fun _ _ _ h' => h') default s (h.run _ default caller_in caller_has)
    obtain ⟨f, rfl, hf⟩ := h'
    exact hf
  obtain ⟨n, r, s₁, s₂, hs, hn, hfo, hR⟩ := wp_halts_full (M := model prog w) (R := R) hreg q
  exact ⟨n, r, s₂, s₁, hn, hs, hfo, hR⟩

theorem callFromC {c : ClaimW} {tree : List Value → Sem Fin} {w : World} {s : Shared} {free : Addr → Prop} {gens : Prop} {kept : Heap → Prop} (hz : s.asleep) (hgens : s.gens = #[])
    (hspec : ∀ args, c.pre args = true → WData.layableAll args = true → ∀ ord : List DictEntry → List DictEntry, (∀ l, (ord l).Perm l) →
      ∃ vs s₁, layAllW c.records (classAt s.heap) w.params ord args s = some (vs, s₁) ∧
        wpC (model c.prog w) callerA (tree vs) (fun fin s' => ∃ f, fin = .done f ∧ (c.Ends s args vs s₁ (.ok f) s' ∧ s'.os = s.os ∧ AllBare s'.gens ∧ kept s'.heap))
          (fun e s' => c.Ends s args vs s₁ (.error e) s' ∧ s'.os = s.os ∧ AllBare s'.gens ∧ kept s'.heap) s₁) :
    c.CallFrom (fun vs => ⟨tree vs, .builtin "claim.caller" {}, default, []⟩) w free gens kept s := by
  intro args hpre hlay ord hord
  obtain ⟨vs, s₁, hlaid, hcode⟩ := hspec args hpre hlay ord hord
  have hal := layAllW_rest _ _ _ hlaid
  obtain ⟨k, r, s', s'', hrun, hsched, hfo, hcase, hos, hkp⟩ := thread_endsC (prog := c.prog) (w := w) (t := tree vs) (s := s₁)
    (R := fun r s' => c.Ends s args vs s₁ r s' ∧ s'.os = s.os ∧ kept s'.heap) (Shared.asleep_of_life hal.2.2.2 hz)
    (wpC_mono hcode (fun fin s' ⟨f, e, h1, h2, h3, h4⟩ => ⟨f, e, ⟨h1, h2, h4⟩, leftWithCleanup_false_of_bare h3⟩)
      (fun e s' ⟨h1, h2, h3, h4⟩ => ⟨⟨h1, h2, h4⟩, leftWithCleanup_false_of_bare h3⟩))
  obtain ⟨eh, _, _, eo, _⟩ := Shared.forget_eq hfo
  have hcase := hcase.congr eh
  rw [← eh] at hkp
  rw [← eo] at hos
  have hlife : s'.heap.life = s.heap.life := (runN_life _ _ _ hrun).trans hal.2.2.2
  refine ⟨vs, s₁, hlaid, k, _, s', hsched, ?_, (fun _ i x hx => by rw [hgens] at hx; simp at hx), hkp, by rw [hlife], Shared.rest_eq hos⟩
  rcases hcase with ⟨v, rfl, d1, d2, d3, d4, d5⟩ | ⟨e, ob, cls, rfl, d1, d2, d3, d4, d5⟩
  · exact .inl ⟨v, rfl, d1, d2, d3, fun b o y _ => d4 b o y, d5⟩
  · exact .inr ⟨e, ob, cls, rfl, d1, d2, d3, d4, fun b o y _ => d5 b o y⟩

/-- the walk that is asked for: as the kit's WalkO, under the caller -/
noncomputable def WalkC (q : Program) (loose : List Str) (XP : (Str → Option Value) → Heap → Prop) (YP : World → Heap → Prop) (r : RowW) (d : DefRec) (kwd : List (Str × PySem.Expr)) : Prop :=
  ∀ (w : World) (s₀ s₁ : Shared) (mg mb : Str → Option Value), Ground q loose r.records XP w s₀ mg mb s₁.heap → YP w s₁.heap → ∀ (a : Addr) (o : Obj) (pm cd doc dV kV : Value), s₁.heap.get? a = some o →
    o.data = .func { docDef d.name d.params d.body d.scope pm cd doc with defaults := dV, kwdefaults := kV } → s₁.heap.CodeRec cd d.name → Dflts mg s₁.heap d.params kwd dV kV → mg d.name = some (.ref a) → s₁.gens = #[] →
    ∀ (args : List WData) (vals : List Value) (as : List Addr), r.claim.pre args = true → WData.layableAll args = true → ReadsAllW r.records (classAt s₀.heap) s₁.heap vals args as → WellAll w.params s₁.heap vals args → (∀ a ∈ as, (a == sysModules) = false) →
      wpC (model r.prog w) callerA (PySem.call (.ref a) vals) (fun v s' => GoodWG r.claim (classAt s₀.heap) (ExcName.means s₀.heap) args s₁ (.ok (.ret v)) s')
        (fun e s' => GoodWG r.claim (classAt s₀.heap) (ExcName.means s₀.heap) args s₁ (.error e) s') s₁

theorem PySem.W.holds_open {r : OpenRow} {q : Program} {loose : List Str} {Xt : Shared → Bool} {XP : (Str → Option Value) → Heap → Prop} {α : Type} {Yf : Shared → α} {Ya : World → α} {YP : World → Heap → Prop} {d : DefRec} {kwd : List (Str × PySem.Expr)} {N : Nat}
    (left : LeftO r.prog q loose Xt Yf Ya N) (hY : ∀ w s, Yf s = Ya w → YP w s.heap) (hYk : ∀ w h h', YP w h → (∀ b o, h.get? b = some o → h'.get? b = some o) → YP w h')
    (hX : ∀ s, Xt s = true → XP (s.heap.nsMap mainGlobals) s.heap) (hXk : ∀ mg h h', XP mg h → (∀ b o, h.get? b = some o → h'.get? b = some o) → XP mg h')
    (hdef : defOf q r.name = some (d, kwd)) (hp : r.prog.theDef r.name = some (d.params, d.body, d.scope)) (hk : kwWritten? d.params.kwonlyargs d.params.kw_defaults = some kwd) (hRf : ∀ s, Xt s = true → RecFacts r.records s.heap) (hwr : (!r.writes || r.records.isEmpty) = true)
    (k1 : r.wellSaid = true) (ok : (chainsOk q && opensWell r.prog && (frees r.toRowW && r.within.isEmpty)) = true) (hb : r.prog.bare) (hw : r.toRowW.promised)
    (call : WalkC q loose XP YP r.toRowW d kwd) : r.Holds := by
  obtain ⟨ok, k5⟩ := Bool.and_eq_true_iff.mp ok
  obtain ⟨hch, o1⟩ := Bool.and_eq_true_iff.mp ok
  obtain ⟨k5, k6⟩ := Bool.and_eq_true_iff.mp k5
  obtain ⟨hsame, hu, ha, hap, hm⟩ := frees_parts k5
  refine ⟨k1, hw, ⟨hb, o1, by show r.makers.map _ = []; rw [hm]; rfl⟩, hw.witness, fun w => ⟨(left.behind hX hch w).1, fun s' hs' => ?_⟩⟩
  obtain ⟨s₀, hf, hg0, s, hT, hz, hgens, hg, G00, y⟩ := (left.behind (XP := fun mg h => XP mg h ∧ RecFacts r.records h) (fun s hs => ⟨hX s hs, hRf s hs⟩) hch w).2 s' hs'
  have G0 : Ground q loose [] XP w s (s.heap.nsMap mainGlobals) (s.heap.nsMap builtinsNs) s.heap := ⟨G00.T, G00.B, G00.D, G00.TE, G00.TD, G00.W, G00.X.1, G00.cls, G00.has, G00.apart, G00.once, G00.K⟩
  have RF := G00.X.2
  have hT' := hT
  refine ⟨s₀, hf, hg0, s, hT, fun n hn => ?_, RF.1, RF.2.1, ?_⟩
  · obtain rfl : n = r.name := by split at hn <;> simp_all
    exact pinned_of_view hg G0 hdef hp hk
  have hgens : s.gens = #[] := Array.eq_empty_of_size_eq_zero (beq_iff_eq.mp hgens)
  have G : Ground q loose r.records XP w s _ _ s.heap := RF.ground G0
  refine callFromC (c := r.toRowW.claim) (tree := fun vs => do match ← nsGet mainNs r.name with
      | some f => do ret (← PySem.call f vs)
      | none => unsupported "claim.caller:no-such-global") hz hgens fun args hpre hlay ord hord => ?_
  obtain ⟨⟨vs, s₁⟩, hlaid⟩ := Option.isSome_iff_exists.mp (layAllW_isSome (P := w.params) (ord := ord) G.has args r.args s (pre_splitW hpre).1)
  have keeps := layAllW_keeps _ _ _ hlaid
  have hal := layAllW_rest _ _ _ hlaid
  obtain ⟨as, hrd, hin, hold⟩ := reads_layAllW hord _ _ _ hlaid hlay s₁.heap (fun _ _ e => e)
  have L : Laid r.records w s s₁ args vs as := ⟨⟨ord, hord, hlaid⟩, hrd, hin, hold, keeps, hal.1.trans hgens, hal.2.2.1⟩
  have G₁ := G.keeps hXk keeps
  have hi := ident_freeW hu ha hap
  have hwi : r.toRowW.claim.within = [] := List.isEmpty_iff.mp k6
  obtain ⟨a, o, pm, cd, doc, dV, kV, h1, h2, h3, h4, h5⟩ := G₁.fn hdef
  have h := call w s s₁ _ _ G₁ (hYk _ _ _ (hY w s y) keeps) a o pm cd doc dV kV h2 h3 h4 h5 (defOf_name hdef ▸ h1) L.gens args vs as hpre hlay L.reads L.well (L.low G.low)
  refine ⟨vs, s₁, hlaid, wpC_then (wpAny_nsGet G₁.T.g ?_)⟩
  rw [h1]
  refine wpC_bind (wpC_mono h (fun v s' g => wpC_pure ⟨_, rfl, ?_⟩) fun e s' g => ?_)
  · have z := g.laid (c := r.toRowW.claim) hsame hwi hi L
    exact ⟨z.1, z.2.1, z.2.2, fun q => ⟨namesKept_of hT' hg r.keeps keeps g.2.1.old, noTable hwr q⟩⟩
  · have z := g.laid (c := r.toRowW.claim) hsame hwi hi L
    exact ⟨z.1, z.2.1, z.2.2, fun q => ⟨namesKept_of hT' hg r.keeps keeps g.2.1.old, noTable hwr q⟩⟩
end Hc
open_top hd for PySem.Challenge.rw_ph0115_01
local macro_rules | `(tactic| walk_at "mine steps") => `(tactic| repeat' ((fail_if_success (with_reducible show wpAny _ _ (exec (Stmt.While _ _ _ _) _) _ _ _)); first | (k_unfold; (try dsimp only)) | (k_end; wrow_close) | walk1 | (dsimp only; walk1) | (leave1; walk_say "STEP leave1"; try dsimp only) | fail "no step"))
local macro_rules | `(tactic| walk_at "mine fn") => `(tactic| (
  (case ho => k_is)
  (case hc => k_is)))
local macro_rules | `(tactic| walk_at "mine enter") => `(tactic| (
  (case hloc => exact locs rfl)
  (case hco => exact rfl)
  (case hgen => exact rfl)
  (case hk => exact rfl)
  (case hcell => decide)))
local macro_rules | `(tactic| walk_at "mine kw") => `(tactic| (
  (case b1 => k_is)
  (case b2 => k_is)
  (case b3 => exact rfl)
  (case b4 => exact rfl)
  (case b5 => exact rfl)))
local macro_rules | `(tactic| walk_at "eval Name") => `(tactic| (k_here; k_dflt (refine' ld ?k1 ?k2 ?_; (case k1 => k_asm); (case k2 => first | exact rfl | assumption); k_whole)))

/-- what every heap of the run holds of the top -/
structure Gr (w : World) (mg mb : Str → Option Value) (h : Heap) : Prop where
  X : (hd.heap_39 w.params).In h
  T : TopRead hd.view_39 (looseW hd.view_39 [Str.ofString "_twin_re_1", Str.ofString "_ver_stages", Str.ofString "insort_right", Str.ofString "bisect_right", Str.ofString "bisect_left"]) mg mb h
theorem Gr.keeps {w : World} {mg mb : Str → Option Value} {h h' : Heap} (G : Gr w mg mb h) (k : h.StaysIn h') : Gr w mg mb h' := ⟨G.X.keeps k, G.T.keeps k⟩

theorem binds_kw {s : Shared} {fd : FuncData} {args : Args} {binds : List (Str × Value)} {K : Frag} {T D : Addr} {o o₂ : Obj} {p₁ p₂ : Option Value}
    {k k₂ : Obj → Sem (List (Str × Value))} (X : K.In s.heap) (ho : K.lookup T = some o) (ho₂ : K.lookup D = some o₂)
    (h₁ : bindArgs fd args = Sem.load T p₁ k) (h₂ : k o = Sem.load D p₂ k₂) (h₃ : k₂ o₂ = Sem.pure binds) : BindsTo s fd args binds :=
  fun M A E Q hq => by
    rw [h₁]
    refine wpAny_bind (m := loadPart T p₁) (f := k) (wpAny_loadPart (X _ _ ho) ?_)
    rw [h₂]
    refine wpAny_bind (m := loadPart D p₂) (f := k₂) (wpAny_loadPart (X _ _ ho₂) ?_)
    rw [h₃]
    exact wpAny_pure hq
theorem binds_d {s : Shared} {fd : FuncData} {args : Args} {binds : List (Str × Value)} {K : Frag} {T : Addr} {o : Obj} {p₁ : Option Value}
    {k : Obj → Sem (List (Str × Value))} (X : K.In s.heap) (ho : K.lookup T = some o)
    (h₁ : bindArgs fd args = Sem.load T p₁ k) (h₂ : k o = Sem.pure binds) : BindsTo s fd args binds :=
  fun M A E Q hq => by
    rw [h₁]
    refine wpAny_bind (m := loadPart T p₁) (f := k) (wpAny_loadPart (X _ _ ho) ?_)
    rw [h₂]
    exact wpAny_pure hq

theorem call_own {prog : Program} {w : World} {A : Around} {s : Shared} {K : Frag} {Q : Value → Shared → Prop} {name qual : Str} {params : Arguments} {body : List Stmt} {scope : Scope} {dV kV doc pm cdv ct oc : Value} {an od : Option Addr}
    {osl : Array (Option Value)} {f : Addr} {pos : List Value} {kw : List (Str × Value)} {binds : List (Str × Value)}
    (X : K.In s.heap) (hlim : s.heap.NoLimit) (hroom : A.depth < recursionLimit)
    (ho : K.lookup f = some ⟨oc, od, .func (fnOf name qual params body scope dV kV doc pm an cdv ct), osl⟩) (hcd : codeIn K cdv qual = true)
    (hbind : BindsTo s (fnOf name qual params body scope dV kV doc pm an cdv ct) ⟨pos, kw⟩ binds) (hloc : ∀ y ∈ binds, scope.names.lookup y.1 = some .local)
    (hco : scope.isCoroutine = false) (hgen : scope.isGenerator = false) (hk : scope.kind = .function)
    (hcell : ∀ x ∈ scope.names, x.2 ≠ .cell)
    (h : ∀ L h₁ tk, Fr s.heap L h₁ (fun y => binds.reverse.lookup y) → News s.heap L h₁ [] → 
      wpAny (model prog w) (A.deeper (envOf qual scope L f cdv)) (execs body (envOf qual scope L f cdv))
        (fun fl s' => Q (match fl with | .ret v => v | _ => .none) s') (fun _ _ => False) { s with heap := h₁, toks := tk }) :
    wpAny (model prog w) A (call (.ref f) pos kw) Q (fun _ _ => False) s := by
  refine wpAny_call ?_
  refine codeAny_call_def (fd := fnOf name qual params body scope dV kV doc pm an cdv ct) (body := body) (binds := binds) hroom (X _ _ ho) rfl hlim (codeRec_of X hcd) rfl hbind hcell hloc (fun h₁ hns hk₁ => ?_) hco hgen hk
  refine wpAny_mono (h s.heap.objs.size h₁ _ ⟨hns, hk₁, Nat.le_refl _⟩ News.nil) (fun _ _ x => x) (fun _ _ x => x.elim)

theorem item_list {prog : Program} {w : World} {A : Around} {E : Value → Shared → Prop} {s : Shared} {value slice : PySem.Expr} {l : Addr} {vs : List Value} {k : Int} {u : Tok} {v : Value} {Q : Value → Shared → Prop}
    (hl : s.heap.IsList l vs.toArray) (h0 : 0 ≤ k) (hhi : k < 2 ^ 63) (hx : vs[k.toNat]? = some v) (h : Q v s)
    (hs : subscripted slice false (.ref l) (.int k u) = operate [.ref l, .int k u] (getItem (.ref l) (.int k u)) := by with_unfolding_all rfl) :
    wpAny (model prog w) A (subscriptTail value slice (.ref l) (.int k u)) Q E s :=
  tail_any hl.typeIs slot_list_getitem.lookup (wpAny_getItem_list hl h0 hhi (by simpa using hx) h) hs



theorem bl_str {prog : Program} {w : World} {A : Around} {s : Shared} {mg mb : Str → Option Value} {Q : Value → Shared → Prop} {l : Addr} {vs : List Value} {x : Str} {tx : Tok} {c : Nat}
    (G : Gr w mg mb s.heap) (hroom : A.depth + 10 < recursionLimit) (hl : s.heap.IsList l vs.toArray) (hz : vs.length ≤ 1000) (hc : c ≤ vs.length)
    (hp : ∀ i, i < vs.length → ∃ t u, vs[i]? = some (.str t u) ∧ (t.cps.toList < x.cps.toList ↔ i < c))
    (h : ∀ u h' tk', s.heap.StaysIn h' → Q (.int c u) { s with heap := h', toks := tk' }) :
    wpAny (model prog w) A (call (.ref 78) [.ref l, .str x tx] []) Q (fun _ _ => False) s := by
  obtain ⟨X, T⟩ := G
  refine' call_own (binds := [("a", .ref l), ("x", .str x tx), ("lo", .int 0 413), ("hi", .none), ("key", .none)]) X T.nolimit (by omega) ?ho ?hc ?hbind ?hloc ?hco ?hgen ?hk ?hcell ?_
  walk_at "mine fn"
  case hbind =>
    refine' binds_kw (T := 70) (D := 71) X ?b1 ?b2 ?b3 ?b4 ?b5
    walk_at "mine kw"
  walk_at "mine enter"
  intro L h₁ tk₁ F N
  k_fold
  k_steps
  refine len_list (F.lst hl) ?_ ?_
  · simp; omega
  walk_at "mine steps"
  (with_reducible rename Fr _ _ _ _ => F₂)
  (with_reducible rename News _ _ _ _ => N₂)
  refine While_inv (J := fun n m₁ news₁ => news₁ = [] ∧ ∃ (lo hi : Nat) (tl th : Tok), m₁ "a" = some (.ref l) ∧ m₁ "x" = some (.str x tx) ∧ m₁ "lo" = some (.int lo tl) ∧ m₁ "hi" = some (.int hi th) ∧ n = hi - lo ∧ lo ≤ c ∧ c ≤ hi ∧ hi ≤ vs.length)
    (n₀ := vs.length) F₂ N₂ ?_ ?_ ?_
  · exact ⟨rfl, 0, vs.length, 413, _, rfl, rfl, rfl, rfl, by omega, by omega, hc, Nat.le_refl _⟩
  · rintro n m₁ news₁ h₃ tk₃ F₃ N₃ ⟨rfl, lo, hi, tl, th, ma, mx, ml, mh, rfl, h1, h2, h3⟩
    walk_at "mine steps"
    · (with_reducible rename Fr _ _ _ _ => F₄)
      (with_reducible rename News _ _ _ _ => N₄)
      have hlt : lo < hi := by omega
      have hmid : (((lo : Int) + hi).fdiv 2) = (((lo + hi) / 2 : Nat) : Int) := by
        rw [Int.fdiv_eq_ediv_of_nonneg _ (by omega)]; omega
      obtain ⟨t, u, hv, ht⟩ := hp ((lo + hi) / 2) (by omega)
      rw [hmid] at F₄ ⊢
      refine item_list (F₄.lst hl) (by omega) (by omega) (by exact hv) ?_
      walk_at "mine steps"
      · have hi' : (lo + hi) / 2 < c := ht.mp (by assumption)
        (with_reducible rename Fr _ _ _ _ => F₅)
        (with_reducible rename News _ _ _ _ => N₅)
        refine WhileStep.intro (n' := hi - ((lo + hi) / 2 + 1)) F₅ N₅ (by omega) ?_
        exact ⟨rfl, (lo + hi) / 2 + 1, hi, _, th, ma, mx, rfl, mh, rfl, by omega, by omega, by omega⟩
      · have hi' : ¬ (lo + hi) / 2 < c := fun q => absurd (ht.mpr q) (by assumption)
        (with_reducible rename Fr _ _ _ _ => F₅)
        (with_reducible rename News _ _ _ _ => N₅)
        refine WhileStep.intro (n' := (lo + hi) / 2 - lo) F₅ N₅ (by omega) ?_
        exact ⟨rfl, lo, (lo + hi) / 2, tl, _, ma, mx, ml, rfl, rfl, by omega, by omega, by omega⟩
    · have e : lo = c := by omega
      subst e
      exact h _ _ _ F₃.keep
  · intro e s' q
    exact q.elim

theorem br_str {prog : Program} {w : World} {A : Around} {s : Shared} {mg mb : Str → Option Value} {Q : Value → Shared → Prop} {l : Addr} {vs : List Value} {x : Str} {tx : Tok} {c : Nat}
    (G : Gr w mg mb s.heap) (hroom : A.depth + 10 < recursionLimit) (hl : s.heap.IsList l vs.toArray) (hz : vs.length ≤ 1000) (hc : c ≤ vs.length)
    (hp : ∀ i, i < vs.length → ∃ t u, vs[i]? = some (.str t u) ∧ (x.cps.toList < t.cps.toList ↔ c ≤ i))
    {pos : List Value} {tlo : Tok} (hargs : (pos = [.ref l, .str x tx] ∧ tlo = 399) ∨ pos = [.ref l, .str x tx, .int 0 tlo, .none])
    (h : ∀ u h' tk', s.heap.StaysIn h' → Q (.int c u) { s with heap := h', toks := tk' }) :
    wpAny (model prog w) A (call (.ref 69) pos []) Q (fun _ _ => False) s := by
  obtain ⟨X, T⟩ := G
  refine' call_own (binds := [("a", .ref l), ("x", .str x tx), ("lo", .int 0 tlo), ("hi", .none), ("key", .none)]) X T.nolimit (by omega) ?ho ?hc ?hbind ?hloc ?hco ?hgen ?hk ?hcell ?_
  walk_at "mine fn"
  case hbind =>
    rcases hargs with ⟨rfl, rfl⟩ | rfl
    · refine' binds_kw (T := 61) (D := 62) X ?b1 ?b2 ?b3 ?b4 ?b5
      walk_at "mine kw"
    · refine' binds_kw (T := 61) (D := 62) X ?b1 ?b2 ?b3 ?b4 ?b5
      walk_at "mine kw"
  walk_at "mine enter"
  intro L h₁ tk₁ F N
  k_fold
  k_steps
  refine len_list (F.lst hl) ?_ ?_
  · simp; omega
  walk_at "mine steps"
  (with_reducible rename Fr _ _ _ _ => F₂)
  (with_reducible rename News _ _ _ _ => N₂)
  refine While_inv (J := fun n m₁ news₁ => news₁ = [] ∧ ∃ (lo hi : Nat) (tl th : Tok), m₁ "a" = some (.ref l) ∧ m₁ "x" = some (.str x tx) ∧ m₁ "lo" = some (.int lo tl) ∧ m₁ "hi" = some (.int hi th) ∧ n = hi - lo ∧ lo ≤ c ∧ c ≤ hi ∧ hi ≤ vs.length)
    (n₀ := vs.length) F₂ N₂ ?_ ?_ ?_
  · exact ⟨rfl, 0, vs.length, tlo, _, rfl, rfl, rfl, rfl, by omega, by omega, hc, Nat.le_refl _⟩
  · rintro n m₁ news₁ h₃ tk₃ F₃ N₃ ⟨rfl, lo, hi, tl, th, ma, mx, ml, mh, rfl, h1, h2, h3⟩
    walk_at "mine steps"
    · (with_reducible rename Fr _ _ _ _ => F₄)
      (with_reducible rename News _ _ _ _ => N₄)
      have hlt : lo < hi := by omega
      have hmid : (((lo : Int) + hi).fdiv 2) = (((lo + hi) / 2 : Nat) : Int) := by
        rw [Int.fdiv_eq_ediv_of_nonneg _ (by omega)]; omega
      obtain ⟨t, u, hv, ht⟩ := hp ((lo + hi) / 2) (by omega)
      rw [hmid] at F₄ ⊢
      refine item_list (F₄.lst hl) (by omega) (by omega) (by exact hv) ?_
      walk_at "mine steps"
      rotate_left
      · have hi' : (lo + hi) / 2 < c := Nat.lt_of_not_le fun q => absurd (ht.mpr q) (by assumption)
        (with_reducible rename Fr _ _ _ _ => F₅)
        (with_reducible rename News _ _ _ _ => N₅)
        refine WhileStep.intro (n' := hi - ((lo + hi) / 2 + 1)) F₅ N₅ (by omega) ?_
        exact ⟨rfl, (lo + hi) / 2 + 1, hi, _, th, ma, mx, rfl, mh, rfl, by omega, by omega, by omega⟩
      · have hi' : c ≤ (lo + hi) / 2 := ht.mp (by assumption)
        (with_reducible rename Fr _ _ _ _ => F₅)
        (with_reducible rename News _ _ _ _ => N₅)
        refine WhileStep.intro (n' := (lo + hi) / 2 - lo) F₅ N₅ (by omega) ?_
        exact ⟨rfl, lo, (lo + hi) / 2, tl, _, ma, mx, ml, rfl, rfl, by omega, by omega, by omega⟩
    · have e : lo = c := by omega
      subst e
      exact h _ _ _ F₃.keep
  · intro e s' q
    exact q.elim

section Vm
open PySem.Sre
noncomputable def CC : Array Nat := #[14, 4, 0, 1, 4294967295, 17, 0, 7, 14, 24, 10, 1, 4294967295, 13, 5, 22, 48, 57, 0, 1, 15, 17, 15, 13, 11, 9, 0, 26624, 2147483648, 0, 0, 0, 0, 0, 0, 15, 2, 0, 17, 1, 1]

noncomputable def digB (c : Nat) : Bool := decide (48 ≤ c) && decide (c ≤ 57)
noncomputable def chB (c : Nat) : Bool := decide (c < 256) && (CC.getD (25 + (1 + c / 32)) 0).testBit (c % 32)

theorem acc_dig (c : Nat) (seen : Sre.Seen) : ∃ s', accepts CC 13 c seen = .ok (digB c, s') := by
  unfold accepts
  simp only [show CC.getD 13 0 = 13 from rfl, show ops[13]? = some Op.IN from rfl, show CC.size = 41 from rfl]
  unfold inSet
  simp only [show CC.getD (13 + 2 + 0) 0 = 22 from rfl, show CC.getD (13 + 2 + 1) 0 = 48 from rfl, show CC.getD (13 + 2 + 2) 0 = 57 from rfl, show ops[22]? = some Op.RANGE from rfl]
  unfold digB
  cases h : (decide (48 ≤ c) && decide (c ≤ 57)) with
  | true => exact ⟨_, by rw [if_pos rfl]⟩
  | false =>
    simp only [Bool.false_eq_true, if_false]
    unfold inSet
    simp only [show CC.getD (13 + 2 + 3 + 0) 0 = 0 from rfl, show ops[0]? = some Op.FAILURE from rfl]
    exact ⟨_, rfl⟩

theorem acc_sep (c : Nat) (seen : Sre.Seen) : ∃ s', accepts CC 23 c seen = .ok (chB c, s') := by
  unfold accepts
  simp only [show CC.getD 23 0 = 13 from rfl, show ops[13]? = some Op.IN from rfl, show CC.size = 41 from rfl]
  unfold inSet
  simp only [show CC.getD (23 + 2 + 0) 0 = 9 from rfl, show ops[9]? = some Op.CHARSET from rfl]
  unfold chB
  cases h : (decide (c < 256) && (CC.getD (25 + (1 + c / 32)) 0).testBit (c % 32)) with
  | true => exact ⟨_, by rw [if_pos rfl]⟩
  | false =>
    rw [if_neg Bool.false_ne_true]
    unfold inSet
    simp only [show CC.getD (23 + 2 + 9 + 0) 0 = 0 from rfl, show ops[0]? = some Op.FAILURE from rfl]
    exact ⟨_, rfl⟩

theorem run_dig (text : Array Nat) (p : Nat) : ∀ (r k found : Nat) (seen : Sre.Seen), (∀ i, i < k → digB (text.getD (p + i) 0) = true) → (k < r → digB (text.getD (p + k) 0) = false) → k ≤ r → 
    ∃ s', Sre.run CC text 13 r p found seen = .ok (found + k, s')
  | 0, k, found, seen, _, _, hk => by
    obtain rfl : k = 0 := by omega
    exact ⟨seen, rfl⟩
  | r + 1, 0, found, seen, _, h2, _ => by
    unfold Sre.run
    obtain ⟨s', e⟩ := acc_dig (text.getD p 0) seen
    rw [e, show digB (text.getD p 0) = false from h2 (by omega)]
    exact ⟨s', rfl⟩
  | r + 1, k + 1, found, seen, h1, h2, hk => by
    unfold Sre.run
    obtain ⟨s', e⟩ := acc_dig (text.getD p 0) seen
    rw [e, show digB (text.getD p 0) = true from h1 0 (by omega)]
    obtain ⟨s'', e'⟩ := run_dig text (p + 1) r k (found + 1) s' (fun i hi => by rw [show p + 1 + i = p + (i + 1) by omega]; exact h1 (i + 1) (by omega)) (fun hr => by rw [show p + 1 + k = p + (k + 1) by omega]; exact h2 (by omega)) (by omega)
    refine ⟨s'', ?_⟩
    show Sre.run CC text 13 r (p + 1) (found + 1) s' = _
    rw [e', show found + 1 + k = found + (k + 1) by omega]

/-- the machine's states that a search meets -/
noncomputable def st0 (text : Array Nat) (lim s p ls : Nat) (must om : Bool) (marks : Array (Option Nat)) (seen : Sre.Seen) : M :=
  { code := CC, text, lim, start := s, lastStart := ls, mustAdvance := must, pc := 5, pos := p, handed := p, outermost := om, marks, frames := [{ wait := .nextStart, pc := 5, pos := s, outermost := om }], weight := 1, seen }

theorem search0 (text : Array Nat) (p lim : Nat) (h : p < lim) : ∃ seen, forSearch CC text 1 p lim false = st0 text lim p p lim false true #[none, none] seen := by
  unfold forSearch
  have h1 : (decide (p > lim) || decide (lim - p < (header CC).1)) = false := by
    show (decide (p > lim) || decide (lim - p < 1)) = false
    simp; omega
  simp only [h1]
  rw [if_neg Bool.false_ne_true]
  exact ⟨_, rfl⟩
theorem search_end (text : Array Nat) (lim : Nat) (b : Bool) : ((forSearch CC text 1 lim lim b).runFor 4).outcome = some .failed := by
  unfold forSearch
  have h1 : (decide (lim > lim) || decide (lim - lim < (header CC).1)) = true := by
    show (decide (lim > lim) || decide (lim - lim < 1)) = true
    simp
  simp only [h1]
  rw [if_pos trivial]
  rfl

/-- behind the first mark and the branch: at the digits -/
noncomputable def st2 (text : Array Nat) (lim s ls : Nat) (must om : Bool) (marks : Array (Option Nat)) (seen : Sre.Seen) : M :=
  { code := CC, text, lim, start := s, lastStart := ls, mustAdvance := must, pc := 9, pos := s, handed := s, outermost := om, marks := marks.setIfInBounds 0 (some s), lastmark := 0,
    frames := [{ wait := .nextBranch, pc := 8, pos := s, outermost := om, kept := { lastmark := 0 } }, { wait := .nextStart, pc := 5, pos := s, outermost := om }], weight := 2, seen }
theorem st0_2 (text : Array Nat) (lim s ls : Nat) (must om : Bool) (marks : Array (Option Nat)) (seen : Sre.Seen) : ∃ seen', (st0 text lim s s ls must om marks seen).step.step = st2 text lim s ls must om marks seen' := ⟨_, rfl⟩

theorem exec_rep {m : M} {n : Nat} {s' : Sre.Seen} (hop : ops[m.word 0]? = some .REPEAT_ONE) (hroom : ¬ (m.word 2 : Int) > (m.lim : Int) - m.pos)
    (e : Sre.run m.code m.text (m.pc + 4) (min (m.word 3) ((m.lim : Int) - m.pos).toNat) m.pos 0 ((m.seen.add (m.word 0)).add (m.word 4)) = .ok (n, s')) (hn : ¬ n < m.word 2) :
    m.exec = ({ m with seen := s', pos := m.pos + n }).afterRun .giveBack n (m.keep m.inner.isSome) := by
  unfold M.exec
  simp only [M.word] at hop hroom e hn ⊢
  simp only [hop]
  refine (if_neg hroom).trans ?_
  simp only [Bool.false_eq_true, if_false]
  rw [e]
  simp only [if_neg hn]
  rfl
theorem exec_rep_no {m : M} {n : Nat} {s' : Sre.Seen} (hop : ops[m.word 0]? = some .REPEAT_ONE) (hroom : ¬ (m.word 2 : Int) > (m.lim : Int) - m.pos)
    (e : Sre.run m.code m.text (m.pc + 4) (min (m.word 3) ((m.lim : Int) - m.pos).toNat) m.pos 0 ((m.seen.add (m.word 0)).add (m.word 4)) = .ok (n, s')) (hn : n < m.word 2) :
    m.exec = ({ m with seen := s' }).say false := by
  unfold M.exec
  simp only [M.word] at hop hroom e hn ⊢
  simp only [hop]
  refine (if_neg hroom).trans ?_
  simp only [Bool.false_eq_true, if_false]
  rw [e]
  simp only [if_pos hn]

/-- a match from s to e -/
structure Found (m : M) (s e : Nat) : Prop where
  out : m.outcome = some .matched
  start : m.start = s
  handed : m.handed = e
  lastmark : m.lastmark = 1
  marks : m.marks = #[some s, some e]
theorem st2_dig (text : Array Nat) (lim s n : Nat) (seen : Sre.Seen) (h1 : 1 ≤ n) (h2 : s + n ≤ lim) (h3 : lim < 4294967295) (hd : ∀ i, i < n → digB (text.getD (s + i) 0) = true) (hn : s + n < lim → digB (text.getD (s + n) 0) = false) (x y : Option Nat) :
    Found ((st2 text lim s lim false true #[x, y] seen).runFor 8) s (s + n) := by
  obtain ⟨s', e⟩ := run_dig text s (min 4294967295 ((lim : Int) - s).toNat) n 0 ((seen.add 24).add 13) hd (fun h => hn (by omega)) (by omega)
  have hroom : ¬ ((1 : Nat) : Int) > (lim : Int) - s := by omega
  have e1 : (st2 text lim s lim false true #[x, y] seen).step = ({ (st2 text lim s lim false true #[x, y] seen) with seen := s', pos := s + n }).afterRun .giveBack n { lastmark := 0 } := by
    rw [Nat.zero_add] at e
    exact exec_rep (m := st2 text lim s lim false true #[x, y] seen) rfl hroom e (by show ¬ n < 1; omega)
  have e2 : (st2 text lim s lim false true #[x, y] seen).runFor 8 = M.runFor 7 (({ (st2 text lim s lim false true #[x, y] seen) with seen := s', pos := s + n }).afterRun .giveBack n { lastmark := 0 }) := by
    rw [← e1]; rfl
  rw [e2]
  exact ⟨by kernel_rfl, by kernel_rfl, by kernel_rfl, by kernel_rfl, by kernel_rfl⟩

theorem exec_rep_end {m : M} (hop : ops[m.word 0]? = some .REPEAT_ONE) (hroom : (m.word 2 : Int) > (m.lim : Int) - m.pos) :
    m.exec = ({ m with seen := m.seen.add (m.word 0) }).say false := by
  unfold M.exec
  simp only [M.word] at hop hroom ⊢
  simp only [hop]
  exact if_pos hroom
theorem exec_in {m : M} {b : Bool} {s' : Sre.Seen} (hop : ops[m.word 0]? = some .IN) (hp : ¬ m.pos ≥ m.lim) (e : accepts m.code m.pc (m.text.getD m.pos 0) (m.seen.add (m.word 0)) = .ok (b, s')) :
    m.exec = cond b { m with seen := s', pc := m.pc + itemWidth m.code m.pc, pos := m.pos + 1 } (({ m with seen := s' }).say false) := by
  unfold M.exec
  simp only [M.word] at hop e ⊢
  simp only [hop]
  refine (if_neg hp).trans ?_
  rw [e]
  cases b <;> rfl
theorem exec_in_end {m : M} (hop : ops[m.word 0]? = some .IN) (hp : m.pos ≥ m.lim) :
    m.exec = ({ m with seen := m.seen.add (m.word 0) }).say false := by
  unfold M.exec
  simp only [M.word] at hop ⊢
  simp only [hop]
  exact if_pos hp

/-- at the second branch: at the signs' set -/
noncomputable def st5 (text : Array Nat) (lim s : Nat) (om : Bool) (y : Option Nat) (seen : Sre.Seen) : M :=
  { code := CC, text, lim, start := s, lastStart := lim, mustAdvance := false, pc := 23, pos := s, handed := s, outermost := om, marks := #[some s, y], lastmark := 0,
    frames := [{ wait := .nextBranch, pc := 22, pos := s, outermost := om, kept := { lastmark := 0 } }, { wait := .nextStart, pc := 5, pos := s, outermost := om }], weight := 2, seen }
theorem st2_5 (text : Array Nat) (lim s : Nat) (om : Bool) (seen : Sre.Seen) (h2 : s < lim) (hd : digB (text.getD s 0) = false) (x y : Option Nat) :
    ∃ seen', ((st2 text lim s lim false om #[x, y] seen).step).step = st5 text lim s om y seen' := by
  obtain ⟨s', e⟩ := run_dig text s (min 4294967295 ((lim : Int) - s).toNat) 0 0 ((seen.add 24).add 13) (fun i h => absurd h (by omega)) (fun _ => hd) (by omega)
  have hroom : ¬ ((1 : Nat) : Int) > (lim : Int) - s := by omega
  have e1 : (st2 text lim s lim false om #[x, y] seen).step = ({ (st2 text lim s lim false om #[x, y] seen) with seen := s' }).say false :=
    exec_rep_no (m := st2 text lim s lim false om #[x, y] seen) rfl hroom e (by show 0 + 0 < 1; omega)
  exact ⟨s', by rw [e1]; kernel_rfl⟩
theorem st2_5e (text : Array Nat) (lim : Nat) (om : Bool) (seen : Sre.Seen) (x y : Option Nat) :
    ∃ seen', ((st2 text lim lim lim false om #[x, y] seen).step).step = st5 text lim lim om y seen' := by
  have e1 : (st2 text lim lim lim false om #[x, y] seen).step = ({ (st2 text lim lim lim false om #[x, y] seen) with seen := seen.add 24 }).say false :=
    exec_rep_end (m := st2 text lim lim lim false om #[x, y] seen) rfl (by show ((1 : Nat) : Int) > (lim : Int) - lim; omega)
  exact ⟨seen.add 24, by rw [e1]; kernel_rfl⟩
theorem st5_sep (text : Array Nat) (lim s : Nat) (seen : Sre.Seen) (h2 : s < lim) (hc : chB (text.getD s 0) = true) (y : Option Nat) :
    Found ((st5 text lim s true y seen).runFor 7) s (s + 1) := by
  obtain ⟨s', e⟩ := acc_sep (text.getD s 0) (seen.add 13)
  rw [hc] at e
  have e1 : (st5 text lim s true y seen).step = { (st5 text lim s true y seen) with seen := s', pc := 35, pos := s + 1 } :=
    exec_in (m := st5 text lim s true y seen) rfl (by show ¬ s ≥ lim; omega) e
  have e2 : (st5 text lim s true y seen).runFor 7 = M.runFor 6 { (st5 text lim s true y seen) with seen := s', pc := 35, pos := s + 1 } := by
    rw [← e1]; rfl
  rw [e2]
  exact ⟨by kernel_rfl, by kernel_rfl, by kernel_rfl, by kernel_rfl, by kernel_rfl⟩
/-- both branches have failed -/
noncomputable def st7 (text : Array Nat) (lim s : Nat) (om : Bool) (y : Option Nat) (seen : Sre.Seen) : M :=
  { code := CC, text, lim, start := s, lastStart := lim, mustAdvance := false, pc := 22, pos := s, handed := s, outermost := om, marks := #[some s, y], lastmark := 0,
    frames := [{ wait := .nextStart, pc := 5, pos := s, outermost := om }], weight := 1, seen, answer := some false }
theorem st5_no (text : Array Nat) (lim s : Nat) (om : Bool) (seen : Sre.Seen) (hc : s < lim → chB (text.getD s 0) = false) (y : Option Nat) :
    ∃ seen', ((st5 text lim s om y seen).step).step = st7 text lim s om y seen' := by
  by_cases h2 : s < lim
  · obtain ⟨s', e⟩ := acc_sep (text.getD s 0) (seen.add 13)
    rw [hc h2] at e
    have e1 : (st5 text lim s om y seen).step = ({ (st5 text lim s om y seen) with seen := s' }).say false :=
      exec_in (m := st5 text lim s om y seen) rfl (by show ¬ s ≥ lim; omega) e
    exact ⟨s', by rw [e1]; kernel_rfl⟩
  · have e1 : (st5 text lim s om y seen).step = ({ (st5 text lim s om y seen) with seen := seen.add 13 }).say false :=
      exec_in_end (m := st5 text lim s om y seen) rfl (by show s ≥ lim; omega)
    exact ⟨seen.add 13, by rw [e1]; kernel_rfl⟩
theorem st7_on (text : Array Nat) (lim s : Nat) (om : Bool) (y : Option Nat) (seen : Sre.Seen) (h : s < lim) :
    (st7 text lim s om y seen).step = st0 text lim (s + 1) (s + 1) lim false false #[some s, y] seen := by
  show (if s < lim then _ else _) = _
  rw [if_pos h]
  kernel_rfl
theorem st7_end (text : Array Nat) (lim : Nat) (om : Bool) (y : Option Nat) (seen : Sre.Seen) :
    ((st7 text lim lim om y seen).step.step).outcome = some .failed := by
  have e : (st7 text lim lim om y seen).step = M.say { (st7 text lim lim om y seen) with answer := none, frames := [], weight := 0, pc := 5, pos := lim, outermost := om } false := by
    show (if lim < lim then _ else _) = _
    rw [if_neg (Nat.lt_irrefl _)]
    rfl
  rw [e]
  kernel_rfl

theorem runFor_done {m : M} (h : m.outcome.isSome = true) : ∀ n, m.runFor n = m
  | 0 => rfl
  | n + 1 => by unfold M.runFor; rw [if_pos h]
theorem runFor_add (a b : Nat) (m : M) : m.runFor (a + b) = (m.runFor a).runFor b := by
  induction a generalizing m with
  | zero => rw [Nat.zero_add]; rfl
  | succ a ih =>
    rw [Nat.succ_add]
    show (if m.outcome.isSome = true then m else _) = _
    by_cases h : m.outcome.isSome = true
    · rw [if_pos h, runFor_done h, runFor_done h]
    · rw [if_neg h, ih]
      congr 1
      show _ = (if m.outcome.isSome = true then m else _)
      rw [if_neg h]
theorem runFor_two {m : M} (h : m.outcome = none) (h' : m.step.outcome = none) : m.runFor 2 = m.step.step := by
  unfold M.runFor; rw [h]
  show M.runFor 1 m.step = _
  unfold M.runFor; rw [h']
  rfl
theorem runFor_one {m : M} (h : m.outcome = none) : m.runFor 1 = m.step := by
  unfold M.runFor; rw [h]; rfl
theorem Found.more {m : M} {s e : Nat} (F : Found m s e) (n : Nat) : Found (m.runFor n) s e := by
  rw [runFor_done (by rw [F.out]; rfl)]; exact F
theorem step_done {m : M} (h : m.outcome.isSome = true) : m.step = m := by unfold M.step; rw [if_pos h]
theorem out_of_step {m : M} (h : m.step.outcome = none) : m.outcome = none := by
  cases q : m.outcome with
  | none => rfl
  | some o => rw [step_done (by rw [q]; rfl), q] at h; exact h
theorem search_dig (text : Array Nat) (lim s n : Nat) (h1 : 1 ≤ n) (h2 : s + n ≤ lim) (h3 : lim < 4294967295) (hd : ∀ i, i < n → digB (text.getD (s + i) 0) = true) (hn : s + n < lim → digB (text.getD (s + n) 0) = false) :
    Found ((forSearch CC text 1 s lim false).runFor 12) s (s + n) := by
  obtain ⟨sn, e⟩ := search0 text s lim (by omega)
  obtain ⟨sn', e'⟩ := st0_2 text lim s lim false true #[none, none] sn
  rw [e, runFor_add 2 10, runFor_two (by kernel_rfl) (by kernel_rfl), e', runFor_add 8 2]
  exact (st2_dig text lim s n sn' h1 h2 h3 hd hn none none).more 2
theorem search_sep (text : Array Nat) (lim s : Nat) (h2 : s < lim) (hd : digB (text.getD s 0) = false) (hc : chB (text.getD s 0) = true) :
    Found ((forSearch CC text 1 s lim false).runFor 12) s (s + 1) := by
  obtain ⟨sn, e⟩ := search0 text s lim (by omega)
  obtain ⟨sn', e'⟩ := st0_2 text lim s lim false true #[none, none] sn
  obtain ⟨sn'', e''⟩ := st2_5 text lim s true sn' h2 hd none none
  have q := out_of_step (m := (st2 text lim s lim false true #[none, none] sn').step) (by rw [e'']; rfl)
  rw [e, runFor_add 2 10, runFor_two (by kernel_rfl) (by kernel_rfl), e', runFor_add 2 8, runFor_two (by kernel_rfl) q, e'', runFor_add 7 1]
  exact (st5_sep text lim s sn'' h2 hc none).more 1
theorem search_no (text : Array Nat) (s : Nat) (hd : digB (text.getD s 0) = false) (hc : chB (text.getD s 0) = false) :
    ((forSearch CC text 1 s (s + 1) false).runFor 16).outcome = some .failed := by
  obtain ⟨sn, e⟩ := search0 text s (s + 1) (by omega)
  obtain ⟨a1, e1⟩ := st0_2 text (s + 1) s (s + 1) false true #[none, none] sn
  obtain ⟨a2, e2⟩ := st2_5 text (s + 1) s true a1 (by omega) hd none none
  obtain ⟨a3, e3⟩ := st5_no text (s + 1) s true a2 (fun _ => hc) none
  have e4 := st7_on text (s + 1) s true none a3 (by omega)
  obtain ⟨a5, e5⟩ := st0_2 text (s + 1) (s + 1) (s + 1) false false #[some s, none] a3
  obtain ⟨a6, e6⟩ := st2_5e text (s + 1) false a5 (some s) none
  obtain ⟨a7, e7⟩ := st5_no text (s + 1) (s + 1) false a6 (fun h => absurd h (by omega)) none
  have q2 := out_of_step (m := (st2 text (s + 1) s (s + 1) false true #[none, none] a1).step) (by rw [e2]; rfl)
  have q3 := out_of_step (m := (st5 text (s + 1) s true none a2).step) (by rw [e3]; rfl)
  have q6 := out_of_step (m := (st2 text (s + 1) (s + 1) (s + 1) false false #[some s, none] a5).step) (by rw [e6]; rfl)
  have q7 := out_of_step (m := (st5 text (s + 1) (s + 1) false none a6).step) (by rw [e7]; rfl)
  rw [e, runFor_add 2 14, runFor_two (by kernel_rfl) (by kernel_rfl), e1, runFor_add 2 12, runFor_two (by kernel_rfl) q2, e2, runFor_add 2 10, runFor_two (by kernel_rfl) q3, e3,
    runFor_add 1 9, runFor_one (by kernel_rfl), e4, runFor_add 2 7, runFor_two (by kernel_rfl) (by kernel_rfl), e5, runFor_add 2 5, runFor_two (by kernel_rfl) q6, e6, runFor_add 2 3, runFor_two (by kernel_rfl) q7, e7]
  have f := st7_end text (s + 1) false none a7
  by_cases h : ((st7 text (s + 1) (s + 1) false none a7).step).outcome = none
  · rw [runFor_add 2 1, runFor_two (by kernel_rfl) h, runFor_done (by rw [f]; rfl)]; exact f
  · have h' : ((st7 text (s + 1) (s + 1) false none a7).step).outcome.isSome = true := by
      cases q : ((st7 text (s + 1) (s + 1) false none a7).step).outcome with
      | none => exact absurd q h
      | some _ => rfl
    rw [step_done h'] at f
    rw [runFor_add 1 2, runFor_one (by kernel_rfl), runFor_done h']; exact f
end Vm

section Spl
open PySem.Builtin.Re
variable {prog : Program} {w : World} {A : Around} {E : Value → Shared → Prop} {s : Shared}

theorem drive {Q : Sre.M → Shared → Prop} : ∀ (k N : Nat) (m : Sre.M), k ≤ N → (m.runFor (4 * k)).outcome.isSome = true → 0 < k → Q (m.runFor (4 * k)) s → wpAny (model prog w) A (reDrive N m) Q E s
  | 0, _, _, _, _, h0, _ => absurd h0 (by omega)
  | k + 1, 0, _, hN, _, _, _ => absurd hN (by omega)
  | k + 1, N + 1, m, hN, ho, _, hq => by
    unfold reDrive
    dsimp only
    show wpAny (model prog w) A (if (m.runFor 4).outcome.isSome = true then pure (m.runFor 4) else _) Q E s
    by_cases h : (m.runFor 4).outcome.isSome = true
    · rw [if_pos h]
      rw [show 4 * (k + 1) = 4 + 4 * k by omega, runFor_add, runFor_done h] at hq
      exact wpAny_pure hq
    · rw [if_neg h]
      refine wpAny_bind (wpAny_rule ?_)
      rw [show 4 * (k + 1) = 4 + 4 * k by omega, runFor_add] at hq ho
      cases k with
      | zero => exact absurd ho h
      | succ k => exact drive (k + 1) N (m.runFor 4) (by omega) ho (by omega) hq

theorem rules_only {α : Type} {Q : PUnit → Shared → Prop} (p : α → Bool) (f : α → String) (l : List α) (h : Q ⟨⟩ s) :
    wpAny (model prog w) A (forIn l PUnit.unit fun i _ => if p i = true then do rule (f i); pure (ForInStep.yield PUnit.unit) else pure (ForInStep.yield PUnit.unit)) Q E s := by
  refine wpAny_forIn_list _ (fun _ _ s' => s' = s) _ ?_ ?_ l _ rfl
  · intro x rest b s' e
    subst e
    split
    · exact wpAny_bind (wpAny_rule (wpAny_pure rfl))
    · exact wpAny_pure rfl
  · intro b s' e
    subst e
    exact h

theorem toEnd_found {m : Sre.M} {k a b : Nat} {Q : Option Sre.M → Shared → Prop} (hk : k ≤ 100) (h0 : 0 < k) (F : Found (m.runFor (4 * k)) a b) (h : ∀ m', Found m' a b → Q (some m') s) : wpAny (model prog w) A (reRunToEnd m) Q E s := by
  unfold reRunToEnd
  refine wpAny_bind (drive k (2 ^ 64) m (by omega) (by rw [F.out]; rfl) h0 ?_)
  refine wpAny_bind (rules_only (fun i => (m.runFor (4 * k)).seen.has i) (fun i => Sre.names.getD i "") _ ?_)
  rw [F.out]
  exact wpAny_pure (h _ F)
theorem toEnd_none {m : Sre.M} {k : Nat} {Q : Option Sre.M → Shared → Prop} (hk : k ≤ 100) (h0 : 0 < k) (F : (m.runFor (4 * k)).outcome = some .failed) (h : Q none s) : wpAny (model prog w) A (reRunToEnd m) Q E s := by
  unfold reRunToEnd
  refine wpAny_bind (drive k (2 ^ 64) m (by omega) (by rw [F]; rfl) h0 ?_)
  refine wpAny_bind (rules_only (fun i => (m.runFor (4 * k)).seen.has i) (fun i => Sre.names.getD i "") _ ?_)
  rw [F]
  exact wpAny_pure h

/-- a text in parts: numbers, signs, and what stands behind them -/
inductive Tk where
  | dig (ds : List Nat)
  | sep (c : Nat)
noncomputable def Tk.cs : Tk → List Nat
  | .dig ds => ds
  | .sep c => [c]
noncomputable def flat (l : List Tk) : List Nat := l.flatMap Tk.cs
noncomputable def OkT : List Tk → List Nat → Prop
  | [], last => last = [] ∨ ∃ c, last = [c] ∧ digB c = false ∧ chB c = false
  | .dig ds :: r, last => ds ≠ [] ∧ (∀ c ∈ ds, digB c = true) ∧ (∀ c, (flat r ++ last).head? = some c → digB c = false) ∧ OkT r last
  | .sep c :: r, last => digB c = false ∧ chB c = true ∧ OkT r last
noncomputable def pieces (l : List Tk) (last : List Nat) : List Str := l.flatMap (fun k => [⟨#[]⟩, ⟨k.cs.toArray⟩]) ++ [⟨last.toArray⟩]

theorem getD_drop (text : Array Nat) (p i : Nat) (l : List Nat) (h : text.toList.drop p = l) : text.getD (p + i) 0 = l.getD i 0 := by
  subst h
  simp [List.getD, List.getElem?_drop, Array.getD_eq_getD_getElem?]

noncomputable def tgt (x : Str) (tx : Tok) : ReTarget := { pattern := .ref 36, string := .str x tx, code := CC, text := x.cps, kind := 0, groups := 1, pos := 0, lim := x.cps.size }

theorem next_tok {x : Str} {tx : Tok} {p : Nat} {k : Tk} {r : List Tk} {last : List Nat} {Q : Option Sre.M → Shared → Prop} (hx : x.cps.toList.drop p = k.cs ++ (flat r ++ last)) (hk : OkT (k :: r) last) (hp : p ≤ x.cps.size) (hz : x.cps.size < 4294967295)
    (h : ∀ m, Found m p (p + k.cs.length) → Q (some m) s) : wpAny (model prog w) A (reNextFound (tgt x tx) p false) Q E s := by
  have hl : p + (k.cs.length + (flat r ++ last).length) = x.cps.size := by
    have := congrArg List.length hx
    simp at this ⊢
    omega
  have hg : ∀ i, x.cps.getD (p + i) 0 = (k.cs ++ (flat r ++ last)).getD i 0 := fun i => getD_drop _ _ _ _ hx
  unfold reNextFound
  refine toEnd_found (k := 3) (by omega) (by omega) ?_ h
  cases k with
  | dig ds =>
    obtain ⟨h1, h2, h3, _⟩ := hk
    simp only [Tk.cs] at hl hg ⊢
    refine search_dig x.cps x.cps.size p ds.length (List.length_pos_iff.mpr h1) (by omega) hz (fun i hi => ?_) fun hlt => ?_
    · rw [hg]
      simp only [List.getD, List.getElem?_append_left hi, List.getElem?_eq_getElem hi, Option.getD_some]
      exact h2 _ (List.getElem_mem hi)
    · rw [hg]
      simp only [List.getD, List.getElem?_append_right (Nat.le_refl _), Nat.sub_self]
      cases hq : flat r ++ last with
      | nil => rw [hq] at hl; simp at hl; omega
      | cons c l => exact h3 c (by rw [hq]; rfl)
  | sep c =>
    obtain ⟨h1, h2, _⟩ := hk
    simp only [Tk.cs, List.length_singleton] at hl hg ⊢
    have e : x.cps.getD p 0 = c := by have := hg 0; simpa using this
    exact search_sep x.cps x.cps.size p (by omega) (by rw [e]; exact h1) (by rw [e]; exact h2)
theorem next_none {x : Str} {tx : Tok} {p : Nat} {last : List Nat} {Q : Option Sre.M → Shared → Prop} (hx : x.cps.toList.drop p = last) (hk : OkT [] last) (hp : p ≤ x.cps.size)
    (h : Q none s) : wpAny (model prog w) A (reNextFound (tgt x tx) p false) Q E s := by
  have hl : p + last.length = x.cps.size := by
    have := congrArg List.length hx
    simp at this ⊢
    omega
  unfold reNextFound
  rcases hk with rfl | ⟨c, rfl, h1, h2⟩
  · obtain rfl : p = x.cps.size := by simpa using hl
    exact toEnd_none (k := 1) (by omega) (by omega) (search_end _ _ _) h
  · have e : x.cps.getD p 0 = c := by have := getD_drop _ p 0 _ hx; simpa using this
    have hs : x.cps.size = p + 1 := by simpa using hl.symm
    refine toEnd_none (k := 4) (by omega) (by omega) ?_ h
    show ((Sre.forSearch CC x.cps 1 p x.cps.size false).runFor 16).outcome = _
    rw [hs]
    exact search_no x.cps p (by rw [e]; exact h1) (by rw [e]; exact h2)

noncomputable def mids (l : List Tk) : List Str := l.flatMap (fun k => [⟨#[]⟩, ⟨k.cs.toArray⟩])
theorem mids_length : ∀ l : List Tk, (mids l).length = 2 * l.length
  | [] => rfl
  | _ :: r => by
    have := mids_length r
    simp only [mids, List.flatMap_cons, List.length_append, List.length_cons, List.length_nil] at *
    omega
theorem okT_len : ∀ {l : List Tk} {last : List Nat}, OkT l last → l.length ≤ (flat l).length
  | [], _, _ => Nat.le_refl _
  | .dig ds :: r, last, ⟨h1, _, _, h4⟩ => by
    have := okT_len h4
    have := List.length_pos_iff.mpr h1
    simp only [flat, List.flatMap_cons, List.length_append, List.length_cons, Tk.cs] at *
    omega
  | .sep c :: r, last, ⟨_, _, h4⟩ => by
    have := okT_len h4
    simp only [flat, List.flatMap_cons, List.length_append, List.length_cons, Tk.cs, List.length_nil] at *
    omega
theorem okT_tail {k : Tk} {r : List Tk} {last : List Nat} (h : OkT (k :: r) last) : OkT r last := by
  cases k with
  | dig ds => exact h.2.2.2
  | sep c => exact h.2.2
theorem strsAre_app : ∀ {vs us : List Value} {xs ys : List Str}, StrsAre vs xs → StrsAre us ys → StrsAre (vs ++ us) (xs ++ ys)
  | _, _, _, _, .nil, h => h
  | _, _, _, _, .cons a t r, h => .cons a t (strsAre_app r h)
theorem extract_mid (x : Array Nat) (p : Nat) (a b : List Nat) (h : x.toList.drop p = a ++ b) (_hp : p ≤ x.size) : x.extract p (p + a.length) = a.toArray := by
  apply Array.toList_inj.mp
  rw [Array.toList_extract]
  simp only [List.extract_eq_take_drop, h]
  simp
theorem extract_none (x : Array Nat) (p : Nat) : x.extract p p = #[] := by simp; omega

theorem whole_target {K : Frag} {arr : Array Value} {kk : Nat} {x : Str} {tx : Tok} {Q : ReTarget → Shared → Prop} (X : K.In s.heap)
    (h36 : K.lookup 36 = some ⟨.type "re.Pattern", none, .fields #[.str "([0-9]+|[._+-])" 285, .int 32 329, .int 1 0, .none, .none, .ref 35, .int 0 0], #[]⟩)
    (h35 : K.lookup 35 = some ⟨.type "tuple", none, .seq arr kk, #[]⟩) (harr : (arr.map reRawOf).map (fun x => x.toNat) = CC) (h : Q (tgt x tx) s) :
    wpAny (model prog w) A (reWholeTarget (.ref 36) (.str x tx)) Q E s := by
  unfold reWholeTarget
  refine wpAny_bind (wpAny_fieldsOf (X _ _ h36) rfl ?_)
  rw [show reTextOf (.str x tx) = pure (x.cps, 0) from rfl]
  refine wpAny_bind (wpAny_pure ?_)
  dsimp only
  rw [if_neg (by decide), if_neg (by decide)]
  rw [show reNoCollectionInside (.str x tx) 0 = pure () from rfl]
  refine wpAny_bind (wpAny_pure ?_)
  refine wpAny_bind ?_
  unfold reRawItems
  refine wpAny_bind (wpAny_seqItems (X _ _ h35) rfl ?_)
  refine wpAny_pure (wpAny_pure ?_)
  have e : (((some arr).getD #[]).map reRawOf).map (fun x => x.toNat) = CC := harr
  rw [e]
  exact h

theorem split_tree {K : Frag} {arr : Array Value} {kk : Nat} {x : Str} {tx : Tok} {toks : List Tk} {last : List Nat} {P : Fin → Shared → Prop} (X : K.In s.heap)
    (h36 : K.lookup 36 = some ⟨.type "re.Pattern", none, .fields #[.str "([0-9]+|[._+-])" 285, .int 32 329, .int 1 0, .none, .none, .ref 35, .int 0 0], #[]⟩)
    (h35 : K.lookup 35 = some ⟨.type "tuple", none, .seq arr kk, #[]⟩) (harr : (arr.map reRawOf).map (fun x => x.toNat) = CC)
    (hx : x.cps.toList = flat toks ++ last) (hk : OkT toks last) (hz : x.cps.size < 10000)
    (h : ∀ (vs : List Value) (tk' : Nat), StrsAre vs (pieces toks last) → P (.done (.ret (.ref s.heap.objs.size))) { s with heap := s.heap.push { cls := .type "list", data := .seq vs.toArray }, toks := tk' }) :
    wpAny (model prog w) A (Builtin.«re.Pattern.split» ⟨[.ref 36, .str x tx], []⟩) P E s := by
  unfold Builtin.«re.Pattern.split»
  dsimp only
  have e1 : reNamed "re.Pattern.split" "split" ["string", "maxsplit"] 1 [.str x tx] [] = pure [some (.str x tx), none] := by kernel_rfl
  rw [e1]
  refine wpAny_bind (wpAny_pure ?_)
  dsimp only
  refine wpAny_bind (wpAny_pure ?_)
  refine wpAny_bind (whole_target X h36 h35 harr ?_)
  have hsz := congrArg List.length hx
  have hlen := okT_len hk
  simp only [Array.length_toList, List.length_append] at hsz
  refine wpAny_bind (wpAny_forIn_list _ (fun rest st s' => ∃ tk, s' = { s with toks := tk } ∧
      ((∃ pre todo p vs n, toks = pre ++ todo ∧ st = (List.toArray vs, p, p, false, n, false) ∧ x.cps.toList.drop p = flat todo ++ last ∧ OkT todo last ∧ p ≤ x.cps.size ∧ StrsAre vs (mids pre) ∧ todo.length < rest.length) ∨
       (∃ st₀ p vs m₀ n, st = (List.toArray vs, st₀, p, m₀, n, true) ∧ x.cps.toList.drop p = last ∧ p ≤ x.cps.size ∧ StrsAre vs (mids toks)))) _ ?turn ?fin _ _ ?start)
  case start =>
    refine ⟨s.toks, rfl, .inl ⟨[], toks, 0, [], 0, rfl, rfl, hx, hk, Nat.zero_le _, .nil, ?_⟩⟩
    rw [List.length_range]
    show toks.length < 2 * x.cps.size + 3
    omega
  case turn =>
    rintro i rest st s' ⟨tk, rfl, ⟨pre, todo, p, vs, n, e1, rfl, e2, e3, e4, e5, e6⟩ | ⟨st₀, p, vs, m₀, n, rfl, e2, e4, e5⟩⟩
    · dsimp only
      rw [if_pos (show (!false) = true from rfl), if_neg (show ¬ ((0 : Int) != 0 && decide (n ≥ 0)) = true by simp)]
      cases todo with
      | nil =>
        refine wpAny_bind ?_
        refine next_none (x := x) (tx := tx) (p := p) (by simpa [flat] using e2) e3 e4 ?_
        refine wpAny_pure ⟨tk, rfl, .inr ⟨p, p, vs, false, n, rfl, by simpa [flat] using e2, e4, ?_⟩⟩
        rw [e1, List.append_nil]; exact e5
      | cons k r =>
        refine wpAny_bind ?_
        refine next_tok (x := x) (tx := tx) (p := p) (k := k) (r := r) (last := last) (by simpa [flat] using e2) e3 e4 (by omega) fun m F => ?_
        dsimp only
        have hl : p + (k.cs.length + (flat r ++ last).length) = x.cps.size := by
          have := congrArg List.length e2
          simp [flat] at this ⊢
          omega
        have hkl : 0 < k.cs.length := by
          cases k with
          | dig ds => exact List.length_pos_iff.mpr e3.1
          | sep c => exact Nat.one_pos
        rw [F.start, F.handed]
        unfold reSlice
        rw [if_pos (show ((tgt x tx).kind == 0) = true from rfl)]
        refine wpAny_bind (wpAny_mkStr ?_ (by show (x.cps.extract p p).size ≤ _; rw [extract_none]; exact Nat.zero_le _))
        refine wpAny_bind ?_
        rw [show List.range (tgt x tx).groups = [0] from rfl, List.forIn_cons]
        refine wpAny_bind (wpAny_bind ?_)
        unfold reMachineGroup
        rw [if_neg (show ¬ (((2 * (0 + 1 - 1) : Nat) : Int) ≥ m.lastmark) by rw [F.lastmark]; decide), F.marks]
        show wpAny _ _ (if p + k.cs.length < p then _ else _) _ _ _
        rw [if_neg (by omega)]
        unfold reSlice
        rw [if_pos (show ((tgt x tx).kind == 0) = true from rfl)]
        have ex : x.cps.extract p (p + k.cs.length) = k.cs.toArray := extract_mid x.cps p k.cs (flat r ++ last) (by simpa [flat] using e2) e4
        refine wpAny_mkStr ?_ (by show (x.cps.extract p (p + k.cs.length)).size ≤ _; rw [ex, sizeLine_eq]; simp; omega)
        refine wpAny_pure ?_
        dsimp only
        rw [List.forIn_nil]
        refine wpAny_pure (wpAny_pure ?_)
        refine ⟨tk + 1 + 1, rfl, .inl ⟨pre ++ [k], r, p + k.cs.length, vs ++ [.str ⟨#[]⟩ tk, .str ⟨k.cs.toArray⟩ (tk + 1)], n + 1, by rw [e1]; simp, ?_, ?_, okT_tail e3, by omega, ?_, by simp at e6; omega⟩⟩
        · have hb : (p + k.cs.length == p) = false := by simp; intro q; rw [q] at hkl; simp at hkl
          simp only [hb, Prod.mk.injEq, and_true, true_and]
          show (vs.toArray.push (.str ⟨x.cps.extract p p⟩ tk)).push (.str ⟨x.cps.extract p (p + k.cs.length)⟩ (tk + 1)) = _
          rw [ex, extract_none]
          simp
        · rw [← List.drop_drop, e2]
          simp [flat]
        · rw [mids, List.flatMap_append]
          exact strsAre_app e5 (.cons _ _ (.cons _ _ .nil))
    · dsimp only
      rw [if_neg (show ¬ (!true) = true from Bool.false_ne_true)]
      exact wpAny_pure ⟨tk, rfl, .inr ⟨st₀, p, vs, m₀, n, rfl, e2, e4, e5⟩⟩
  case fin =>
    rintro st s' ⟨tk, rfl, ⟨pre, todo, p, vs, n, e1, rfl, e2, e3, e4, e5, e6⟩ | ⟨st₀, p, vs, m₀, n, rfl, e2, e4, e5⟩⟩
    · simp at e6
    · dsimp only
      rw [if_neg (show ¬ (!true) = true from Bool.false_ne_true)]
      unfold reSlice
      rw [if_pos (show ((tgt x tx).kind == 0) = true from rfl)]
      have hl : p + last.length = x.cps.size := by
        have := congrArg List.length e2
        simp at this
        omega
      have ex : x.cps.extract p x.cps.size = last.toArray := by
        have := extract_mid x.cps p last [] (by simpa using e2) e4
        rw [← this, hl]
      refine wpAny_bind (wpAny_mkStr ?_ (by show (x.cps.extract p x.cps.size).size ≤ _; rw [ex, sizeLine_eq]; simp; omega))
      refine wpAny_bind (wpAny_newList ?_ (by
        simp only [Array.toList_push, List.length_append, List.length_singleton]
        rw [e5.length, mids]
        rw [sizeLine_eq]
        have := mids_length toks
        rw [mids] at this
        omega))
      refine wpAny_pure ?_
      have q := h (vs ++ [.str ⟨last.toArray⟩ tk]) (tk + 1) (strsAre_app e5 (.cons _ _ .nil))
      have e : (vs.toArray.push (Value.str ⟨x.cps.extract p x.cps.size⟩ tk)).toList.toArray = (vs ++ [Value.str ⟨last.toArray⟩ tk]).toArray := by rw [ex]; simp
      rw [← e] at q
      exact q

theorem slot_split : Slot "re.Pattern" "split" "re.Pattern.split" :=
  .of (owner := "re.Pattern") (n := "split") (by rw [typeLookup_type, builtinLookup_eq_fast]; kernel_rfl) (by decide +kernel) (by decide +kernel) (by decide +kernel)
    (by first | exact .inl (by decide +kernel) | exact .inr (by decide +kernel)) (by rw [isSubtype_type]; kernel_rfl)
theorem type_split : typeOf (.builtin "re.Pattern.split") = pure (.type "method_descriptor") := by show builtinType _ = _; rw [builtinType_eq_fast]; kernel_rfl
theorem entry_split : entryFor table "re.Pattern.split" = some Builtin.«re.Pattern.split» := entryFor_of_tree (by kernel_rfl)
theorem args_split (a b : Value) : argsOk "re.Pattern.split" ⟨[a, b], []⟩ := by
  unfold argsOk; kernel_rfl
theorem plain_pattern : PlainAttrs "re.Pattern" := ⟨⟨"object.__getattribute__", by rw [typeLookup_type, builtinLookup_eq_fast]; kernel_rfl, by decide +kernel⟩, by rw [typeLookup_type, builtinLookup_eq_fast]; kernel_rfl⟩
end Spl

section Cf
variable {prog : Program} {w : World} {A : Around} {E : Value → Shared → Prop} {s : Shared}

theorem codeC_func {R : Result → Shared → Prop} {body : List Stmt} {env : Env}
    (h : wpC (model prog w) (A.deeper env) (execs body env) (fun f s' => R (.ok (.ret (match f with | .ret v => v | _ => .none))) s') (fun _ _ => False) s) : codeC (model prog w) A (.func body env) R s := by
  refine codeC_of_tree ?_
  show wpC _ (A.deeper env) (do point; match ← (execs body env).onRaise (leaving env) with | .ret v => ret v | _ => ret .none) _ _ s
  refine wpC_then (wpAny_point (wpC_bind (wpC_onRaise (wpC_mono h (fun f s' h' => ?_) fun _ _ h' => h'.elim))))
  cases f <;> exact wpC_pure h'

theorem call_ownC {K : Frag} {Q : Value → Shared → Prop} {name qual : Str} {params : Arguments} {body : List Stmt} {scope : Scope} {dV kV doc pm cdv ct oc : Value} {an od : Option Addr}
    {osl : Array (Option Value)} {f : Addr} {pos : List Value} {kw : List (Str × Value)} {binds : List (Str × Value)}
    (X : K.In s.heap) (hlim : s.heap.NoLimit) (hroom : A.depth < recursionLimit)
    (ho : K.lookup f = some ⟨oc, od, .func (fnOf name qual params body scope dV kV doc pm an cdv ct), osl⟩) (hcd : codeIn K cdv qual = true)
    (hbind : BindsTo s (fnOf name qual params body scope dV kV doc pm an cdv ct) ⟨pos, kw⟩ binds) (hloc : ∀ y ∈ binds, scope.names.lookup y.1 = some .local)
    (hco : scope.isCoroutine = false) (hgen : scope.isGenerator = false) (hk : scope.kind = .function)
    (hcell : ∀ x ∈ scope.names, x.2 ≠ .cell)
    (h : ∀ L h₁ tk, Fr s.heap L h₁ (fun y => binds.reverse.lookup y) → News s.heap L h₁ [] →
      wpC (model prog w) (A.deeper (envOf qual scope L f cdv)) (execs body (envOf qual scope L f cdv))
        (fun fl s' => Q (match fl with | .ret v => v | _ => .none) s') (fun _ _ => False) { s with heap := h₁, toks := tk }) :
    wpC (model prog w) A (call (.ref f) pos kw) Q E s := by
  refine wpC_call (codeC_of_tree ?_)
  show wpC _ A.in1 (callAny (.ref f) ⟨pos, kw⟩) _ _ s
  simp only [callAny]
  refine wpC_then (wpAny_load (X _ _ ho) ?_)
  obtain ⟨c, oc', vs, tq, hc, hoc, hdc, hq⟩ := codeRec_of X hcd
  subst hc
  simp only [callFunction, hco, hgen]
  refine wpC_then (m := field (.ref c) 1) (wpAny_field hoc hdc hq ?_)
  refine wpC_then (wpAny_pure ?_)
  refine wpC_then (hbind _ _ _ _ ?_)
  refine wpC_then (wpAny_newFunctionEnv hcell hloc (fun h₀ hns₀ hsb₀ => ?_) hk)
  have keep : ∀ b o, s.heap.get? b = some o → h₀.get? b = some o := fun b o e => hsb₀.extBut b o (Nat.ne_of_lt (Heap.lt_size e)) (Heap.get?_push_of_some _ e)
  refine wpC_then (wpAny_enterFrame (hlim.fresh _ hsb₀) hroom ?_)
  exact wpC_pure ⟨rfl, codeC_func (h s.heap.objs.size h₀ _ ⟨hns₀, keep, Nat.le_refl _⟩ News.nil)⟩

/-- a while under the caller -/
theorem While_C {env : Env} {Q : Flow → Shared → Prop} {test : PySem.Expr} {body : List Stmt} {pos : Pos} (I : Nat → Shared → Prop)
    (turn : ∀ n s', I n s' → wpC (model prog w) A (isTrue test env (eval test env)) (fun b s₂ =>
        if b = true then wpC (model prog w) A (execs body env) (fun f s₃ => f = .next ∧ ∃ m, m < n ∧ I m s₃) (fun _ _ => False) s₂ else Q .next s₂) (fun _ _ => False) s')
    (n : Nat) (h : I n s) : wpC (model prog w) A (exec (.While test body [] pos) env) Q E s := by
  rw [exec_While]
  refine wpC_then (wpAny_standAt (C_runOwn (codeC_loop rfl I (fun n s hI => ?_) n h)))
  show wpC _ A ((whileTurn test body [] env).onRaise (fun x => do noteFrame x env; theTreesLotGoes x)) _ _ s
  refine wpC_onRaise ?_
  simp only [whileTurn]
  refine wpC_bind (wpC_mono (turn n s hI) (fun b s₂ h₂ => ?_) fun _ _ h' => h'.elim)
  cases b with
  | false =>
    simp only [Bool.false_eq_true, if_false] at h₂ ⊢
    exact wpC_bind (C_execs_nil (wpC_pure h₂))
  | true =>
    simp only [if_true] at h₂ ⊢
    refine wpC_bind (wpC_mono h₂ (fun f s₃ h₃ => ?_) fun _ _ h' => h'.elim)
    obtain ⟨rfl, h₃⟩ := h₃
    exact wpC_pure ⟨rfl, h₃⟩

theorem codeC_block {R : Result → Shared → Prop} {env : Env} (h : R (.ok .next) s) : codeC (model prog w) A (.block [] env) R s :=
  codeC_of (codeAny_block (wpAny_execs_nil h))
theorem codeC_loop' {M : Model} {c : Code} {R : Result → Shared → Prop} (hq : c.quiet = true) (I : Nat → Shared → Prop)
    (turn : ∀ n s, I n s → wpC M (A.under c) (M.den c) (fun fin s' => match fin with | .done f => R (.ok f) s' | .again c' => (c' = c ∧ ∃ m, m < n ∧ I m s') ∨ (c'.quiet = true ∧ codeC M A c' R s')) (fun e s' => R (.error e) s') s)
    (n : Nat) (h : I n s) : codeC M A c R s := by
  induction n using Nat.strongRecOn generalizing s with
  | ind n ih =>
    refine codeC_of_tree (wpC_mono (turn n s h) (fun fin s' hf => ?_) fun _ _ h' => h')
    cases fin with
    | done f => exact hf
    | again c' =>
      rcases hf with ⟨rfl, m, hm, hI⟩ | hf
      · exact ⟨hq, ih m hm hI⟩
      · exact hf

/-- a for's turns under the caller -/
theorem turns_C {env : Env} {R : Flow → Shared → Prop} {target : PySem.Expr} {it : Value} {body : List Stmt} (I : Nat → Shared → Prop)
    (turn : ∀ n s', I n s' → wpAny (model prog w) A (pyNext it) (fun r s₁ => match r with
      | none => R .next s₁
      | some v => wpAny (model prog w) A (assign target env v) (fun _ s₂ => wpC (model prog w) A (execs body env) (fun f s₃ => match f with
          | .next | .cont => ∃ m, m < n ∧ I m s₃
          | .brk => R .next s₃
          | .ret v => R (.ret v) s₃) (fun _ _ => False) s₂) (fun _ _ => False) s₁) (fun _ _ => False) s')
    (n : Nat) (h : I n s) (ht : ∀ v, letOwnedTupleGo target it v = pure () := by intro _; rfl) :
    codeC (model prog w) A (.forLoop target it body [] env) (fun r s' => match r with | .ok f => R f s' | .error _ => False) s := by
  refine codeC_loop' rfl I (fun n s hI => ?_) n h
  show wpC _ _ ((forTurn target it body [] env).onRaise (fun x => do noteFrame x env; theTreesLotGoes x)) _ _ s
  refine wpC_onRaise ?_
  simp only [forTurn]
  refine wpC_then (wpAny_standAt (wpC_then (wpAny_onRaise (wpAny_mono (turn n s hI) (fun r s₁ h₁ => ?_) fun _ _ h' => h'.elim))))
  cases r with
  | none => exact wpC_pure (.inr ⟨rfl, codeC_block h₁⟩)
  | some v =>
    refine wpC_then (wpAny_of_eq (ht v) ?_)
    refine wpC_then (wpAny_mono h₁ (fun _ s₂ h₂ => wpC_bind (wpC_mono h₂ (fun f s₃ h₃ => ?_) fun _ _ h' => h'.elim)) fun _ _ h' => h'.elim)
    cases f with
    | next => exact wpC_pure (.inl ⟨rfl, h₃⟩)
    | cont => exact wpC_pure (.inl ⟨rfl, h₃⟩)
    | brk => exact wpC_pure h₃
    | ret v => exact wpC_pure h₃
theorem For_C {env : Env} {target iter : PySem.Expr} {body : List Stmt} {pos : Pos} {Q : Flow → Shared → Prop}
    (h : wpC (model prog w) A (eval iter env) (fun x s₁ => wpAny (model prog w) A (pyIter x) (fun it s₂ =>
      codeC (model prog w) A (.forLoop target it body [] env) (fun r s' => match r with | .ok f => Q f s' | .error _ => False) s₂) E s₁) E s)
    (hs : ∀ x, foldedSetIterable iter env x = pure x := by intro _; rfl) : wpC (model prog w) A (exec (.For target iter body [] pos) env) Q E s := by
  rw [exec_For]
  exact wpC_then (wpAny_standAt (wpC_bind (wpC_mono h (fun x s₁ h₁ => wpC_then (wpAny_of_eq (hs x) (wpC_then (wpAny_standAt (wpC_then (wpAny_holding
    (wpAny_mono h₁ (fun it s₂ h₂ => C_runOwn h₂) fun _ _ h' => h'))))))) fun _ _ h' => h')))

/-- a for under the caller, over what an iterator walks -/
theorem forLoop_C {env : Env} {h₀ : Heap} {R : Flow → Shared → Prop} {x : Str} {px : Pos} {body : List Stmt} {I : Addr} {fp wr : List Addr} {n : Nat} {P : Nat → Value → Prop} {St : Nat → Heap → Prop} {m : Str → Option Value}
    {news : List (Addr × Obj)} (W : Walks prog w A I fp wr n P St) (hx : env.kindOf x = some .local)
    (hp : (env.scope.kind == .class || (env.scope.kind == .module && env.locals != env.globals)) = false)
    (hLf : env.locals ∉ fp) (hwr : ∀ b ∈ wr, h₀.get? b = none) (hnw : ∀ p ∈ news, p.1 ∉ wr)
    (hst : St 0 s.heap) (F : Fr h₀ env.locals s.heap m) (N : News h₀ env.locals s.heap news)
    (J : Nat → (Str → Option Value) → List (Addr × Obj) → Prop) (h0 : J 0 m news)
    (step : ∀ i v m₁ news₁ s₁ own, (∃ h tk, s₁ = { s with heap := h, toks := tk }) → i < n → P i v → J i m₁ news₁ → (∀ p ∈ news₁, p.1 ∉ wr) → (∀ p ∈ own, p.1 ∈ fp) → (∀ b ∈ fp, h₀.get? b = none → ∀ o, s₁.heap.get? b = some o → (b, o) ∈ own) → St (i + 1) s₁.heap →
      Fr h₀ env.locals s₁.heap (fun y => if y = x then some v else m₁ y) → News h₀ env.locals s₁.heap (own ++ news₁) →
      wpC (model prog w) A (execs body env) (LoopStepV h₀ env.locals wr own (J (i + 1)) s₁ (fun v s' => R (.ret v) s') fun s' => R .next s') (fun _ _ => False) s₁)
    (hR : ∀ h' tk m' news', Fr h₀ env.locals h' m' → News h₀ env.locals h' news' → (∀ p ∈ news', p.1 ∉ wr) → J n m' news' → R .next { s with heap := h', toks := tk }) :
    codeC (model prog w) A (.forLoop (.Name x px) (.ref I) body [] env) (fun r s' => match r with | .ok f => R f s' | .error _ => False) s := by
  have hLw : env.locals ∉ wr := fun h => hLf (W.sub _ h)
  have old : ∀ b o, h₀.get? b = some o → b ∉ wr := fun b o e hb => by rw [hwr b hb] at e; cases e
  refine turns_C (fun k s' => ∃ h' tk m' news' i, s' = { s with heap := h', toks := tk } ∧ St i h' ∧ Fr h₀ env.locals h' m' ∧ News h₀ env.locals h' news' ∧ (∀ p ∈ news', p.1 ∉ wr) ∧ J i m' news' ∧ i ≤ n ∧ k = n + 1 - i) ?_ (n + 1)
    ⟨s.heap, s.toks, m, news, 0, rfl, hst, F, N, hnw, h0, Nat.zero_le _, rfl⟩
  rintro k s' ⟨h', tk, m', news', i, rfl, hst', F', N', hnw', hJ, hi, rfl⟩
  have next : ∀ h₁ : Heap, (∀ b o, b ∉ wr → h'.get? b = some o → h₁.get? b = some o) → Fr h₀ env.locals h₁ m' ∧ News h₀ env.locals h₁ news' := fun h₁ hk₁ =>
    ⟨⟨F'.ns.at' fun o e => hk₁ _ o hLw e, fun b o e => hk₁ b o (old b o e) (F'.keep b o e), F'.above⟩, fun p hp => ⟨hk₁ _ _ (hnw' p hp) (N' p hp).1, (N' p hp).2⟩⟩
  by_cases hlt : i < n
  · refine W.item i _ _ _ hlt hst' fun v h₁ tk₁ hP hst₁ hk₁ => ?_
    obtain ⟨F₁, N₁⟩ := next h₁ hk₁
    refine wpAny_assign_Name (wpAny_storeName_local hx F₁.ns (fun h₂ hn₂ hs₂ => ?_) hp)
    have F₂ := F₁.set hn₂ hs₂
    have Nown : News h₀ env.locals h₂ (ownOf h₀ fp h₂) := news_ownOf hLf
    have hst₂ : St (i + 1) h₂ := W.frame _ _ _ hst₁ fun b hb o e => (hs₂.2 b fun q => hLf (q ▸ hb)).trans e
    have fin : ∀ s₃, LoopStepU h₀ env.locals wr (ownOf h₀ fp h₂) (J (i + 1)) { s with heap := h₂, toks := tk₁ + 1 } .next s₃ →
        ∃ k, k < n + 1 - i ∧ ∃ h' tk m' news' i, s₃ = { s with heap := h', toks := tk } ∧ St i h' ∧ Fr h₀ env.locals h' m' ∧ News h₀ env.locals h' news' ∧ (∀ p ∈ news', p.1 ∉ wr) ∧ J i m' news' ∧ i ≤ n ∧ k = n + 1 - i := by
      rintro s₃ ⟨_, h₃', tk₃, m₂, news₂, rfl, F₃, N₃, ha₃, hJ₃⟩
      refine ⟨n + 1 - (i + 1), by omega, h₃', tk₃, m₂, news₂, i + 1, rfl, ?_, F₃, N₃.right, ha₃, hJ₃, hlt, rfl⟩
      refine W.frame _ _ _ hst₁ fun b hb o e => ?_
      have e₂ : h₂.get? b = some o := (hs₂.2 b fun q => hLf (q ▸ hb)).trans e
      cases hn : h₀.get? b with
      | some o₀ =>
        have : o₀ = o := by have := F₂.keep b o₀ hn; rw [e₂] at this; exact (Option.some.inj this).symm
        exact this ▸ F₃.keep b o₀ hn
      | none => exact (N₃ _ (List.mem_append_left _ (mem_ownOf hb hn e₂))).1
    refine wpC_mono (step i v m' news' _ (ownOf h₀ fp h₂) ⟨_, _, rfl⟩ hlt hP hJ hnw' ownOf_sub (fun b hb hn o e => mem_ownOf hb hn e) hst₂ F₂ (Nown.append (N₁.set hs₂))) (fun f s₃ h₃ => ?_) fun _ _ e => e
    cases f with
    | ret v => exact h₃
    | brk => exact h₃
    | cont => exact fin _ h₃
    | next => exact fin _ h₃
  · have hin : i = n := by omega
    subst hin
    refine W.done _ _ _ hst' fun h₁ tk₁ hk₁ => ?_
    obtain ⟨F₁, N₁⟩ := next h₁ hk₁
    exact hR h₁ tk₁ m' news' F₁ N₁ hnw' hJ

/-- a for over a list under the caller: the ledger's addresses stay -/
theorem iter_listC {env : Env} {h₀ : Heap} {x : Str} {px : Pos} {body : List Stmt} {Q : Flow → Shared → Prop} {l : Addr} {vs : List Value} {m₀ : Str → Option Value} {news : List (Addr × Obj)} (J : Nat → (Str → Option Value) → List (Addr × Obj) → Prop)
    (hx : env.kindOf x = some .local) (hp : (env.scope.kind == .class || (env.scope.kind == .module && env.locals != env.globals)) = false)
    (hh : A.handled = none) (hls : s.heap.IsList l vs.toArray) (hlL : l ≠ env.locals) (hln : ∀ p ∈ news, p.1 ≠ l) (F : Fr h₀ env.locals s.heap m₀) (N : News h₀ env.locals s.heap news) (hj : J 0 m₀ news)
    (turn : ∀ i v m₁ news₁ h tk own, vs[i]? = some v → news₁.map (·.1) = news.map (·.1) → OwnOff own (news.map (·.1)) → J i m₁ news₁ → h.IsList l vs.toArray → Fr h₀ env.locals h (fun y => if y = x then some v else m₁ y) → News h₀ env.locals h (news₁ ++ own) →
      wpC (model prog w) A (execs body env) (InvPostN h₀ env.locals (J (i + 1)) own (news.map (·.1)) { s with heap := h, toks := tk } Q) (fun _ _ => False) { s with heap := h, toks := tk })
    (done : ∀ m₁ news₁ h tk, J vs.length m₁ news₁ → Fr h₀ env.locals h m₁ → News h₀ env.locals h news₁ → Q .next { s with heap := h, toks := tk }) :
    wpAny (model prog w) A (pyIter (.ref l)) (fun it s₂ => codeC (model prog w) A (.forLoop (.Name x px) it body [] env) (fun r s' => match r with | .ok f => Q f s' | .error _ => False) s₂) E s := by
  obtain ⟨ol, hol, _⟩ := id hls
  have hne : l ≠ s.heap.objs.size := Nat.ne_of_lt (Heap.lt_size hol)
  refine wpAny_pyIter_list hls ?_
  have W := Walks.list (prog := prog) (w := w) hh s.heap.objs.size l hne vs.toArray
  have hlen : vs.toArray.size = vs.length := by simp
  rw [hlen] at W
  let J' : Nat → (Str → Option Value) → List (Addr × Obj) → Prop := fun i m₁ news₁ => news₁.map (·.1) = news.map (·.1) ∧ J i m₁ news₁
  refine forLoop_C W hx hp ?_ ?_ ?_ ⟨⟨_, Heap.get?_push_size _ rfl, rfl, rfl⟩, hls.at fun o e => Heap.get?_push_of_some _ e⟩ (F.push _) (fun p hp => ⟨Heap.get?_push_of_some _ (N p hp).1, (N p hp).2⟩) J' ⟨rfl, hj⟩ ?_ ?_
  · intro hm
    rcases List.mem_cons.mp hm with e | hm
    · exact absurd F.ns.lt (e ▸ Nat.lt_irrefl _)
    · exact hlL (List.mem_singleton.mp hm).symm
  · intro b hb
    rw [List.mem_singleton.mp hb]
    exact next_is_new F
  · intro p hp hI
    exact absurd (Heap.lt_size (N p hp).1) ((List.mem_singleton.mp hI) ▸ Nat.lt_irrefl _)
  · rintro i v m₁ news₁ s₁ own ⟨hh', tk', rfl⟩ hin hP ⟨hadr, hJ⟩ hoff hown _ hSt F₁ N₁
    have hsep : OwnOff own (news.map (·.1)) := by
      intro p hp b hb e
      obtain ⟨q, hq, rfl⟩ := List.mem_map.mp hb
      rcases List.mem_cons.mp (hown p hp) with h1 | h1
      · exact absurd (Heap.lt_size (N q hq).1) (by rw [← e, h1]; exact Nat.lt_irrefl _)
      · exact hln q hq (by rw [← e, List.mem_singleton.mp h1])
    have hv : vs[i]? = some v := by simpa using hP
    have N₂ : News h₀ env.locals hh' (news₁ ++ own) := fun p hp => N₁ p ((List.mem_append.mp hp).elim (fun h => List.mem_append.mpr (.inr h)) fun h => List.mem_append.mpr (.inl h))
    refine wpC_mono (turn i v m₁ news₁ hh' tk' own hv hadr hsep hJ hSt.2 F₁ N₂) (fun f s₂ p => ?_) fun _ _ e => e
    have fin : InvEndN h₀ env.locals (J (i + 1)) own (news.map (·.1)) { s with heap := hh', toks := tk' } s₂ → LoopStepU h₀ env.locals [s.heap.objs.size] own (J' (i + 1)) { s with heap := hh', toks := tk' } .next s₂ := by
      rintro ⟨h', tk, m', news', nx, e, F', N', hn, ho, ha, hm⟩
      refine ⟨rfl, h', tk, m', nx, e, F', fun p hp => N' p ((List.mem_append.mp hp).elim (ho p) (hn p)), fun p hp hq => ?_, ha, hm⟩
      have h1 : p.1 ∈ nx.map (·.1) := List.mem_map.mpr ⟨p, hp, rfl⟩
      rw [ha, ← hadr] at h1
      obtain ⟨q, hq1, hq2⟩ := List.mem_map.mp h1
      exact hoff q hq1 (by rw [hq2]; exact hq)
    cases f with
    | ret v => exact .ret p
    | brk => exact .brk p
    | next => exact .next (fin p)
    | cont => exact .cont (fin p)
  · rintro h' tk m' news' F' N' _ ⟨_, hJ⟩
    exact done m' news' h' tk hJ F' N'
end Cf

section IntR
open PySem.NumText
variable {prog : Program} {w : World} {A : Around} {E : Value → Shared → Prop} {s : Shared}

theorem codeC_builtin {id : String} {b : Builtin} {args : Args} {R : Result → Shared → Prop} (hb : entryFor table id = some b)
    (h : wpC (model prog w) (A.under (.builtin id args)) (b args) (fun fin s' => match fin with | .done f => R (.ok f) s' | .again c' => c'.quiet = true ∧ codeC (model prog w) A c' R s') (fun e s' => R (.error e) s') s) :
    codeC (model prog w) A (.builtin id args) R s := by
  refine codeC_of_tree ?_
  show wpC _ _ (match entryFor table id with | some b => b args | none => _) _ _ _
  rw [hb]
  exact h

theorem typeCall_int {args : List Value} {Q : Value → Shared → Prop} (hct : checkTypeCall "int" ⟨args, []⟩ = pure ()) (hcn : checkBuiltinCall "int.__new__" ⟨.type "int" :: args, []⟩ = pure ())
    (h : wpC (model prog w) A.in1.in1 (Builtin.«int.__new__» ⟨.type "int" :: args, []⟩) (fun _ _ => False) E s) : wpC (model prog w) A (call (.type "int") args) Q E s := by
  have ft := F.called_int
  obtain ⟨c, tl, hmro⟩ := ft.mro
  have hmade := ft.made
  refine wpC_call (codeC_of_tree ?_)
  show wpC _ _ (callAny (.type "int") _) _ _ _
  refine wpC_pure ⟨Code.quiet_builtin _ (by decide +kernel), codeC_builtin F.entry_type_call ?_⟩
  rw [Around.under_plain (weight_type_call_type "int" args []) (units_type_call_type "int" args [])]
  unfold Builtin.«type.__call__»
  dsimp only
  rw [if_neg (by rw [ft.notType]; exact Bool.false_ne_true)]
  rw [if_neg (show ¬ _ = true from by rw [ft.canCreate]; exact Bool.false_ne_true), hct, hmro]
  refine wpC_then (wpAny_pure (wpC_then (wpAny_pure ?_)))
  rw [if_neg (show ¬ (c :: tl).isEmpty = true from Bool.false_ne_true), hmade]
  refine wpC_then (wpAny_pure (wpC_then (wpAny_pure ?_)))
  refine wpC_bind (wpC_holding (wpC_call (codeC_of_tree ?_)))
  show wpC _ _ (callAny (.builtin "int.__new__") _) _ _ _
  simp only [callAny]
  rw [hcn]
  refine wpC_then (wpAny_pure (wpC_pure ⟨plainId_quiet ft.plain _, codeC_builtin F.entry_int_new ?_⟩))
  rw [Around.under_plainId ft.plain]
  exact wpC_mono h (fun _ _ q => q.elim) fun _ _ q => q

theorem new_int2 (x : Str) (t u : Tok) : Builtin.«int.__new__» ⟨[.type "int", .str x t, .int 10 u], []⟩ = ((int_private% "intFromText") (.str x t) (numTextOf x) 10 >>= fun v => ret v) := by
  have f1 := F.conv_sub_int
  have f2 := F.madeHere_int
  unfold Builtin.«int.__new__»
  dsimp only
  rw [show isType (.type "int") = pure true from rfl, pure_bind]
  rw [if_neg (show ¬ (!true) = true from Bool.false_ne_true), f1, pure_bind, if_neg (show ¬ (!true) = true from Bool.false_ne_true), f2, pure_bind, if_neg (by simp), if_neg (by simp), List.forIn_nil, pure_bind]
  show (do
      let base ← Builtin.Int.intIndex "int.__new__" (.int 10 u)
      _) = _
  rw [show Builtin.Int.intIndex "int.__new__" (.int 10 u) = pure 10 from rfl, pure_bind, if_neg (by decide), show (int_private% "numeralText?") (.str x t) = pure (some (numTextOf x)) from rfl, pure_bind]
  rfl
theorem new_int1 (x : Str) (t : Tok) : Builtin.«int.__new__» ⟨[.type "int", .str x t], []⟩ = ((int_private% "intFromText") (.str x t) (numTextOf x) 10 >>= fun v => ret v) := by
  have f1 := F.conv_sub_int
  have f2 := F.madeHere_int
  have f3 := KIN.str_int
  have f4 := KIN.str_idx
  have f5 := KIN.str_trunc
  unfold Builtin.«int.__new__»
  dsimp only
  rw [show isType (.type "int") = pure true from rfl, pure_bind]
  rw [if_neg (show ¬ (!true) = true from Bool.false_ne_true), f1, pure_bind, if_neg (show ¬ (!true) = true from Bool.false_ne_true), f2, pure_bind, if_neg (by simp), if_neg (by simp), List.forIn_nil, pure_bind]
  have e : (int_private% "intFromObject") (.str x t) = (int_private% "intFromText") (.str x t) (numTextOf x) 10 := by
    refine Eq.trans (b := (callSpecial? (.str x t) "__int__" >>= _)) rfl ?_
    have sp : ∀ n, specialOf (.str x t) n = typeLookup (.type "str") n := fun _ => rfl
    have c1 : callSpecial? (.str x t) "__int__" = pure none := by
      unfold callSpecial?
      rw [sp, f3, pure_bind]
    rw [c1, pure_bind]
    dsimp only
    rw [sp, f4, pure_bind, if_neg (by simp), sp, f5, pure_bind]
    dsimp only
    rw [show (int_private% "numeralText?") (.str x t) = pure (some (numTextOf x)) from rfl, pure_bind]
  show (do
      let v ← (int_private% "intFromObject") (.str x t)
      _) = _
  rw [e]
  rfl

theorem markless {own : List String} {e : Value} {Q : Unit → Shared → Prop} (h : Q () s) : wpC (model prog w) A (markTheRefusal own e) Q E s := by
  unfold markTheRefusal
  refine wpC_bind (wpC_stack fun st hst => ?_)
  have hf : pythonCodeMadeTheCall own (st.map (·.1)) = false := by
    unfold pythonCodeMadeTheCall
    show (((!(st.map (·.1)).any Code.isCaller) && _) && _) = false
    rw [show (st.map (·.1)).any Code.isCaller = true from hst]
    rfl
  rw [hf, if_neg Bool.false_ne_true]
  exact wpC_pure h
theorem plainExc_VE : PlainExc "ValueError" := by first | exact plainExc_ValueError | exact PySem.plainExc_ValueError
theorem refuses {x : Str} {t : Tok} {Q : Value → Shared → Prop} (hA : A.handled = none) (hn : digits? 10 (core (numSeenOf x)) = none) (hs : x.length ≤ 300) (hrep : (reprText x).length ≤ 10000)
    (hE : ∀ h' tk e, Heap.NewExc s.heap h' e "ValueError" → E (.ref e) { s with heap := h', toks := tk }) :
    wpC (model prog w) A ((int_private% "intFromText") (.str x t) (numTextOf x) 10) Q E s := by
  have hl : (numSeenOf x).length ≤ 640 := Nat.le_trans (seen_length x) (by omega)
  have hr : (int_private% "readNumeral") 0 10 (numSeenOf x) = int_private% "Numeral.invalid" := by
    rw [readNumeral_ten, hn]; exact judge_none
  refine (show wpC (model prog w) A (do
      let limit ← if (numSeenOf x).length ≤ 640 then pure 0 else _
      _) Q E s from ?_)
  rw [if_pos hl]
  refine wpC_then (wpAny_pure ?_)
  dsimp only
  rw [show (int_private% "readNumeral") 0 10 (List.takeWhile (fun x => x != 0) (numTextOf x)) = _ from hr]
  dsimp only
  rw [show (int_private% "bytesOf?") (.str x t) = pure none from rfl]
  refine wpC_then (wpAny_pure ?_)
  rw [if_neg (by simp)]
  refine wpC_then (wpAny_rule ?_)
  refine wpC_then (wpAny_pure ?_)
  dsimp only
  refine wpC_then (wpAny_pyRepr_str ?_ (by rw [sizeLine_eq]; omega))
  refine wpC_then (wpAny_mkStr ?_ (by
    rw [sizeLine_eq, Str.length_append]
    have h1 : (Str.ofString (toString "invalid literal for int() with base " ++ toString 10 ++ toString ": ")).length ≤ 100 := by decide +kernel
    have h2 : (⟨(reprText x).cps.extract 0 200⟩ : Str).length ≤ 200 := by show ((reprText x).cps.extract 0 200).size ≤ 200; simp; omega
    omega))
  refine wpC_then (wpAny_newExc_plain plainExc_VE fun h' e hM => ?_)
  refine wpC_bind (markless ?_)
  unfold raiseNew
  refine wpC_of (wpAny_bind (wpAny_handled ?_))
  rw [hA]
  first
    | refine wpAny_throw ?_
    | refine wpAny_bind (wpAny_pure (wpAny_throw ?_))
  exact hE _ _ _ hM.newExc

/-- int(text) and int(text, 10) refuse -/
theorem int1_refuses {x : Str} {t : Tok} {Q : Value → Shared → Prop} (hA : A.handled = none) (hn : digits? 10 (core (numSeenOf x)) = none) (hs : x.length ≤ 300) (hrep : (reprText x).length ≤ 10000)
    (hE : ∀ h' tk e, Heap.NewExc s.heap h' e "ValueError" → E (.ref e) { s with heap := h', toks := tk }) : wpC (model prog w) A (call (.type "int") [.str x t]) Q E s := by
  refine typeCall_int (F.typeCall_int_1 _) (F.newCall_int_1 _) ?_
  rw [new_int1]
  exact wpC_bind (refuses hA hn hs hrep hE)
theorem int2_refuses {x : Str} {t u : Tok} {Q : Value → Shared → Prop} (hA : A.handled = none) (hn : digits? 10 (core (numSeenOf x)) = none) (hs : x.length ≤ 300) (hrep : (reprText x).length ≤ 10000)
    (hE : ∀ h' tk e, Heap.NewExc s.heap h' e "ValueError" → E (.ref e) { s with heap := h', toks := tk }) : wpC (model prog w) A (call (.type "int") [.str x t, .int 10 u]) Q E s := by
  refine typeCall_int (by kernel_rfl) (by kernel_rfl) ?_
  rw [new_int2]
  exact wpC_bind (refuses hA hn hs hrep hE)
/-- int(text, 10) reads -/
theorem int2_reads {x : Str} {t u : Tok} {n : Int} {Q : Value → Shared → Prop} (hn : _root_.PySem.intText? x = some n) (hl : x.length ≤ 640) (h : Q (.int n s.toks) { s with toks := s.toks + 1 }) :
    wpAny (model prog w) A (call (.type "int") [.str x t, .int 10 u]) Q E s := by
  refine callType_new F.called_int F.newNe_int (by kernel_rfl) (by kernel_rfl) (fun obj => by unfold argsOk; kernel_rfl) F.entry_int_new (S := fun A R s => R (.ok (.ret (.int n s.toks))) { s with toks := s.toks + 1 }) (fun prog w A R s hR => ?_) ⟨rfl, h⟩
  rw [new_int2]
  have hs : (numSeenOf x).length ≤ 640 := Nat.le_trans (seen_length x) hl
  rcases read0 x hs with ⟨m, h1, h2, h3⟩ | ⟨h1, _⟩
  · rw [hn] at h1
    obtain rfl := Option.some.inj h1
    exact wpAny_bind (KIN.wp_text hs h3 h2 (wpAny_pure hR))
  · rw [hn] at h1; cases h1
end IntR

section Try
open TI
/-- what a call finds: the frames above it, apart from the base -/
structure Rt (A : Around) (hb h : Heap) (l : List Env) (frs : List (Addr × Obj)) : Prop where
  stack : A.frames = some l
  Fs : Frs l frs
  stays : hb.StaysIn h
  there : ∀ p ∈ frs, h.get? p.1 = some p.2 ∧ hb.get? p.1 = none
  size : hb.objs.size ≤ h.objs.size
/-- what a call leaves -/
noncomputable def Ret (hb : Heap) (frs : List (Addr × Obj)) (h' : Heap) : Prop := hb.StaysIn h' ∧ ∃ frs', SameUp frs frs' ∧ ∀ p ∈ frs', h'.get? p.1 = some p.2

theorem gone_size (h : Heap) : ∀ l : List Addr, (gone h l).objs.size = h.objs.size
  | [] => rfl
  | a :: l => by
    show ((gone h l).update a _).objs.size = _
    rw [Heap.size_after_update, gone_size h l]

section
variable {A : Around} {h₀ h : Heap} {L : Addr} {m : Str → Option Value} {l : List Env} {frs new : List (Addr × Obj)} {name : Str} {scope : Scope} {a : Addr} {cd : Value}

/-- the base that a call out of a frame stands on -/
theorem base_keeps (F : Fr h₀ L h m) (N : News h₀ L h (new ++ frs)) : h₀.StaysIn (gone h (L :: frs.map (·.1))) := fun _ o e => (gone_get (base_apart F N tail_sub e)).trans (F.keep _ o e)
theorem base_news (N : News h₀ L h (new ++ frs)) (hap : ∀ p ∈ new, p.1 ∉ L :: frs.map (·.1)) {p : Addr × Obj} (hp : p ∈ new) : (gone h (L :: frs.map (·.1))).get? p.1 = some p.2 :=
  (gone_get (hap p hp)).trans (N p (List.mem_append_left _ hp)).1
theorem Rt.out (hfr : A.frames = some l) (Fs : Frs l frs) (F : Fr h₀ L h m) (N : News h₀ L h (new ++ frs)) (hk : scope.kind = .function) :
    ∃ oL, Rt (A.deeper (envOf name scope L a cd)) (gone h (L :: frs.map (·.1))) h (envOf name scope L a cd :: l) ((L, oL) :: frs) ∧ h.get? L = some oL := by
  obtain ⟨oL, es, ep, hL, hLd, _⟩ := F.ns
  refine ⟨oL, ⟨Around.frames_deeper hfr, ⟨by show scope.kind ≠ _; rw [hk]; decide, rfl, ⟨es, ep, hLd⟩, Fs⟩, fun b o e => (gone_some e).2, fun p hp => ?_, Nat.le_of_eq (gone_size _ _)⟩, hL⟩
  rcases List.mem_cons.mp hp with rfl | hp
  · exact ⟨hL, gone_none List.mem_cons_self⟩
  · exact ⟨(N p (tail_sub p hp)).1, gone_none (List.mem_cons_of_mem _ (List.mem_map.mpr ⟨p, hp, rfl⟩))⟩
theorem Ret.back {oL : Obj} {h' : Heap} (F : Fr h₀ L h m) (N : News h₀ L h (new ++ frs)) (hap : ∀ p ∈ new, p.1 ∉ L :: frs.map (·.1)) (hL : h.get? L = some oL) (R : Ret (gone h (L :: frs.map (·.1))) ((L, oL) :: frs) h') :
    ∃ frs', SameUp frs frs' ∧ Fr h₀ L h' m ∧ News h₀ L h' (new ++ frs') := by
  obtain ⟨st, fr, SU, ht⟩ := R
  cases fr with
  | nil => exact False.elim SU
  | cons q frs' =>
    obtain ⟨q1, ⟨sl, q2⟩, SU'⟩ := SU
    have hq := ht q List.mem_cons_self
    rw [show q.1 = L from q1, show q.2 = { oL with slots := sl } from q2] at hq
    refine ⟨frs', SU', ⟨?_, fun b o e => st b o (base_keeps F N b o e), F.above⟩, fun p hp => ?_⟩
    · obtain ⟨o, es, ep, ho, hr⟩ := F.ns
      rw [hL] at ho
      obtain rfl := Option.some.inj ho
      exact ⟨_, es, ep, hq, hr⟩
    · rcases List.mem_append.mp hp with hp | hp
      · obtain ⟨p1, p2, p3⟩ := N p (List.mem_append_left _ hp)
        exact ⟨st _ _ (base_news N hap hp), p2, p3⟩
      · obtain ⟨x, hx, e⟩ := SU'.fwd p hp
        obtain ⟨_, p2, p3⟩ := N x (tail_sub x hx)
        exact ⟨ht p (List.mem_cons_of_mem _ hp), by rw [e]; exact p2, by rw [e]; exact p3⟩
/-- what a frame that is left leaves -/
theorem Ret.leave {hb : Heap} {frs₀ : List (Addr × Obj)} (SU : SameUp frs₀ frs) (F : Fr hb L h m) (N : News hb L h (new ++ frs)) : Ret hb frs₀ h :=
  ⟨F.keep, frs, SU, fun p hp => (N p (tail_sub p hp)).1⟩
end

section
variable {prog : Program} {w : World} {A : Around} {E : Value → Shared → Prop} {s : Shared} {env : Env}
theorem C_Try {body orelse : List Stmt} {h₀ : ExceptHandler} {hs : List ExceptHandler} {pos : Pos} {Q : Flow → Shared → Prop}
    (h : wpC (model prog w) A (execs body env) (fun f s₁ => match f with | .next => wpC (model prog w) A (execs orelse env) Q E s₁ | f => Q f s₁)
      (fun e s₁ => wpAny (model prog w) A (noteFrame e env) (fun _ s₂ => wpAny (model prog w) A (setFlight e none) (fun _ s₃ => wpAny (model prog w) A (handleBy e env (h₀ :: hs)) Q E s₃) E s₂) E s₁) s) :
    wpC (model prog w) A (exec (.Try body (h₀ :: hs) orelse [] pos) env) Q E s := by
  rw [arm_exec_Try]
  refine wpC_then (wpAny_standAt ?_)
  unfold tryStmt
  simp only [List.isEmpty_nil, if_true, List.isEmpty_cons, Bool.false_and, Bool.false_eq_true, if_false]
  refine wpC_bind (wpC_attempt (wpC_mono h (fun f s₁ h₁ => ?_) fun e s₁ h₁ => ?_))
  · cases f <;> first | exact h₁ | exact wpC_pure h₁
  · exact wpC_of (wpAny_bind (wpAny_mono h₁ (fun _ _ h₂ => wpAny_bind h₂) fun _ _ x => x))
/-- a call's arguments bind, the frames above standing in the ledger -/
theorem call_rt {K : Frag} {Q : Value → Shared → Prop} {name qual : Str} {params : Arguments} {body : List Stmt} {scope : Scope} {dV kV doc pm cdv ct oc : Value} {an od : Option Addr}
    {osl : Array (Option Value)} {f : Addr} {pos : List Value} {kw : List (Str × Value)} {binds : List (Str × Value)} {hb : Heap} {l : List Env} {frs : List (Addr × Obj)}
    (R : Rt A hb s.heap l frs) (X : K.In hb) (hlim : hb.NoLimit) (hroom : A.depth < recursionLimit)
    (ho : K.lookup f = some ⟨oc, od, .func (fnOf name qual params body scope dV kV doc pm an cdv ct), osl⟩) (hcd : codeIn K cdv qual = true)
    (hbind : BindsTo s (fnOf name qual params body scope dV kV doc pm an cdv ct) ⟨pos, kw⟩ binds) (hloc : ∀ y ∈ binds, scope.names.lookup y.1 = some .local)
    (hco : scope.isCoroutine = false) (hgen : scope.isGenerator = false) (hk : scope.kind = .function)
    (hcell : ∀ x ∈ scope.names, x.2 ≠ .cell)
    (h : ∀ L h₁ tk, Fr hb L h₁ (fun y => binds.reverse.lookup y) → News hb L h₁ frs →
      wpC (model prog w) (A.deeper (envOf qual scope L f cdv)) (execs body (envOf qual scope L f cdv))
        (fun fl s' => Q (match fl with | .ret v => v | _ => .none) s') (fun _ _ => False) { s with heap := h₁, toks := tk }) :
    wpC (model prog w) A (call (.ref f) pos kw) Q E s := by
  refine call_ownC (X.keeps R.stays) (hlim.keeps R.stays) hroom ho hcd hbind hloc hco hgen hk hcell fun L h₁ tk F N => ?_
  refine h L h₁ tk ⟨F.ns, fun b o e => F.keep b o (R.stays b o e), Nat.le_trans R.size F.above⟩ fun p hp => ?_
  obtain ⟨h1, h2⟩ := R.there p hp
  exact ⟨F.keep _ _ h1, fun e => absurd (Heap.lt_size h1) (by rw [e]; exact Nat.not_lt.mpr F.above), h2⟩
end

/-- except ValueError, of an exception that this frame's own call made -/
theorem caught_VE {prog : Program} {w : World} {A₀ : Around} {E : Value → Shared → Prop} {s' : Shared} {hb h : Heap} {L a e : Addr} {m : Str → Option Value} {name : Str} {scope : Scope} {cd : Value} {l : List Env} {frs new : List (Addr × Obj)}
    {b₀ : Stmt} {suite : List Stmt} {pos np : Pos} {rest : List ExceptHandler} {Q : Flow → Shared → Prop} {mg mb : Str → Option Value}
    (hfr : A₀.frames = some l) (Fs : Frs l frs) (hx : Heap.NewExc h s'.heap e "ValueError") (F : Fr hb L h m) (N : News hb L h (new ++ frs)) (hap : ∀ p ∈ new, p.1 ∉ L :: frs.map (·.1)) (G : Gr w mg mb hb)
    (k : ∀ h' frs', SameUp frs frs' → Frs l frs' → Fr hb L h' m → News hb L h' (new ++ frs') →
      wpAny (model prog w) ((A₀.deeper (envOf name scope L a cd)).mark (some (.ref e))) (execs (b₀ :: suite) (envOf name scope L a cd)) Q E { s' with heap := h' })
    (hk : scope.kind = .function) (hx' : (envOf name scope L a cd).kindOf "ValueError" = some .globalImplicit)
    (hE : PassesOwnAt (model prog w) ((A₀.deeper (envOf name scope L a cd)).mark (some (.ref e))) (A₀.deeper (envOf name scope L a cd)) (envOf name scope L a cd) E := by passes_own) :
    wpAny (model prog w) (A₀.deeper (envOf name scope L a cd)) (noteFrame (.ref e) (envOf name scope L a cd))
      (fun _ s₂ => wpAny (model prog w) (A₀.deeper (envOf name scope L a cd)) (setFlight (.ref e) none) (fun _ s₃ =>
        wpAny (model prog w) (A₀.deeper (envOf name scope L a cd)) (handleBy (.ref e) (envOf name scope L a cd) (.ExceptHandler (some (.Name "ValueError" np)) none (b₀ :: suite) pos :: rest)) Q E s₃) E s₂) E s' := by
  refine TLg.noted_newA hfr Fs hx F N hap (fun h' frs' SU Fs' H => ?_) hk
  refine TT.HeldNA.land (fl := rawInt L) H fun h₂ H₂ => ?_
  refine wpAny_handleBy_builtin (X := "ValueError") (T := "ValueError") (b := true) _root_.PySem.F.isExc_ValueError _root_.PySem.F.notTuple_ValueError (by rw [isSubtype_type]; kernel_rfl) (wpAny_passesOwnAt hE ?_)
  refine ld_builtin_at H₂.held.fr G.T.g (G.T.free "ValueError" (by decide +kernel) (by decide +kernel) (by decide +kernel) (by decide +kernel) (by decide +kernel)) G.T.b ((G.T.builtins "ValueError" (by decide +kernel)).trans PyProof.Rows.Boot.«ValueError») ⟨rfl, H₂.isA, ?_⟩ hk hx' (by decide)
  rw [if_pos rfl]
  exact H₂.lands fun h₃ F₃ N₃ => wpAny_passesOwnAt hE (k h₃ frs' SU Fs' F₃ N₃)
end Try

section CallC
variable {M : Model} {A : Around} {E : Value → Shared → Prop} {s : Shared} {env : Env}
theorem C_args_nil {pos : Pos} {Q : List Value → Shared → Prop} (h : Q [] s) : wpC M A (spliced (backTo pos (starEach [] env))) Q E s := wpC_of (spliced_nil h)
theorem C_args_cons {e : PySem.Expr} {rest : List PySem.Expr} {pos : Pos} {Q : List Value → Shared → Prop}
    (h : wpC M A (eval e env) (fun v s₁ => wpC M A (spliced (backTo pos (starEach rest env))) (fun vs s₂ => Q (v :: vs) s₂) E s₁) E s)
    (he : starEach (e :: rest) env = (false, eval e env) :: starEach rest env := by rfl) : wpC M A (spliced (backTo pos (starEach (e :: rest) env))) Q E s := by
  rw [he]
  show wpC M A (spliced ((false, eval e env) :: backTo pos (starEach rest env))) Q E s
  rw [spliced]
  refine wpC_bind (wpC_mono h (fun v s₁ h₁ => ?_) fun _ _ x => x)
  simp only [Bool.false_eq_true, if_false]
  exact wpC_then (wpAny_pure (wpC_bind (wpC_holding (wpC_mono h₁ (fun vs s₂ h₂ => wpC_pure h₂) fun _ _ x => x))))
theorem C_kws_nil {pos : Pos} {Q : List Value → Shared → Prop} (h : Q [] s) : wpC M A (evalAll ((backToKw pos (keywordEach [] env)).map (·.2))) Q E s := wpC_of (wpAny_evalAll_nil h)
theorem C_kws_cons {name : Option Str} {value : PySem.Expr} {p : Pos} {rest : List Keyword} {pos : Pos} {Q : List Value → Shared → Prop}
    (h : wpC M A (eval value env) (fun v s₁ => wpC M A (evalAll ((backToKw pos (keywordEach rest env)).map (·.2))) (fun vs s₂ => Q (v :: vs) s₂) E s₁) E s) :
    wpC M A (evalAll ((backToKw pos (keywordEach (⟨name, value, p⟩ :: rest) env)).map (·.2))) Q E s := by
  show wpC M A (evalAll ((do let v ← eval value env; standAt pos; pure v) :: (backToKw pos (keywordEach rest env)).map (·.2))) Q E s
  rw [evalAll]
  refine wpC_bind (wpC_bind (wpC_mono h (fun v s₁ h₁ => wpC_then (wpAny_standAt (wpC_pure ?_))) fun _ _ x => x))
  exact wpC_bind (wpC_holding (wpC_mono h₁ (fun vs s₂ h₂ => wpC_pure h₂) fun _ _ x => x))

theorem C_evalArgs {f : Value} {x : Sem Value} {rest : List (Bool × Sem Value)} {keywords : List (Option Str × Sem Value)} {Q : Args → Shared → Prop}
    (hall : keywords.all (·.1.isSome) = true)
    (h : wpC M A (spliced ((false, x) :: rest)) (fun vs s₁ => wpC M A (evalAll (keywords.map (·.2))) (fun ks s₂ => Q ⟨vs, (keywords.filterMap (·.1)).zip ks⟩ s₂) E s₁) E s) :
    wpC M A (evalArgs f true ((false, x) :: rest) keywords) Q E s := by
  unfold evalArgs
  show wpC M A (spliced ((false, x) :: rest) >>= _) Q E s
  refine wpC_bind (wpC_mono h (fun vs s₁ h₁ => ?_) fun _ _ x => x)
  refine wpC_holding ?_
  simp only [hall, if_true]
  refine wpC_bind (wpC_mono h₁ (fun ks s₂ h₂ => ?_) fun _ _ x => x)
  exact wpC_then (wpAny_pure (wpC_pure h₂))

/-- a call of a def by its name, under the caller -/
theorem C_Call_fn {id : Str} {p pos : Pos} {e : PySem.Expr} {rest : List PySem.Expr} {keywords : List Keyword} {f : Addr} {o : Obj} {fd : FuncData} {Q : Value → Shared → Prop} (hdat : o.data = .func fd)
    (h : wpAny M A (eval (.Name id p) env) (fun fv s₁ => fv = .ref f ∧ wpC M A (spliced (backTo pos (starEach (e :: rest) env))) (fun vs s₂ =>
      wpC M A (evalAll ((backToKw pos (keywordEach keywords env)).map (·.2))) (fun ks s₃ => s₃.heap.get? f = some o ∧ wpC M A (call (.ref f) vs (((backToKw pos (keywordEach keywords env)).filterMap (·.1)).zip ks)) Q E s₃) E s₂) E s₁) E s)
    (he : starEach (e :: rest) env = (false, eval e env) :: starEach rest env := by rfl)
    (hall : (backToKw pos (keywordEach keywords env)).all (·.1.isSome) = true := by rfl) :
    wpC M A (eval (.Call (.Name id p) (e :: rest) keywords pos) env) Q E s := by
  rw [arm_eval_Call_Name']
  refine wpC_then (wpAny_mono h (fun fv s₁ h₁ => ?_) fun _ _ x => x)
  obtain ⟨rfl, h₁⟩ := h₁
  rw [he] at h₁ ⊢
  unfold callWith
  refine wpC_bind (wpC_holding (C_evalArgs hall (wpC_mono h₁ (fun vs s₂ h₂ => wpC_mono h₂ (fun ks s₃ h₃ => wpC_then (wpAny_standAt ?_)) fun _ _ x => x) fun _ _ x => x)))
  obtain ⟨h3, h4⟩ := h₃
  have tail : ∀ {t : Sem Value}, wpC M A t Q E s₃ → wpC M A (t >>= fun r => holding [r] point >>= fun _ => pure r) Q E s₃ :=
    fun ht => wpC_bind (wpC_mono ht (fun r s₂ hr => wpC_then (wpAny_holding (wpAny_point (wpC_pure hr)))) fun _ _ x => x)
  cases hs : ((backTo pos ((false, eval e env) :: starEach rest env)).any (·.1) || (backToKw pos (keywordEach keywords env)).any (·.1.isNone)) <;>
    refine wpC_bind (m := keeperOf (.ref f)) ?_ <;> unfold keeperOf <;>
    refine wpC_then (wpAny_load h3 ?_) <;> rw [hdat] <;> refine wpC_pure ?_
  · by_cases hn : (backTo pos ((false, eval e env) :: starEach rest env)).length + 2 * (backToKw pos (keywordEach keywords env)).length > 30
    · dsimp only
      rw [if_pos hn]
      exact tail h4
    · dsimp only
      rw [if_neg hn]
      exact tail (by unfold callMarked; exact wpC_keep h4)
  · exact tail (by unfold callMarked; exact wpC_keep h4)

/-- a call of a type by its name, under the caller -/
theorem C_Call_type {id : Str} {p pos : Pos} {e : PySem.Expr} {rest : List PySem.Expr} {T : String} {Q : Value → Shared → Prop}
    (h : wpAny M A (eval (.Name id p) env) (fun fv s₁ => fv = .type T ∧ wpC M A (spliced (backTo pos (starEach (e :: rest) env))) (fun vs s₂ => wpC M A (call (.type T) vs []) Q E s₂) E s₁) E s)
    (he : starEach (e :: rest) env = (false, eval e env) :: starEach rest env := by rfl)
    (hplain : (backTo pos (starEach rest env)).any (·.1) = false := by rfl) :
    wpC M A (eval (.Call (.Name id p) (e :: rest) [] pos) env) Q E s := by
  rw [arm_eval_Call_Name']
  refine wpC_then (wpAny_mono h (fun fv s₁ h₁ => ?_) fun _ _ x => x)
  obtain ⟨rfl, h₁⟩ := h₁
  rw [he] at h₁ ⊢
  have hp : (backTo pos ((false, eval e env) :: starEach rest env)).any (·.1) = false := by show (false || (backTo pos (starEach rest env)).any (·.1)) = false; rw [hplain]; rfl
  unfold callWith
  refine wpC_bind (wpC_holding (C_evalArgs rfl (wpC_mono h₁ (fun vs s₂ h₂ => wpC_of (wpAny_evalAll_nil (wpC_then (wpAny_standAt ?_)))) fun _ _ x => x)))
  rw [hp]
  refine wpC_then (wpAny_pure ?_)
  exact wpC_bind (wpC_mono h₂ (fun r s₂ hr => wpC_then (wpAny_holding (wpAny_point (wpC_pure hr)))) fun _ _ x => x)

theorem C_Subscript {value slice : PySem.Expr} {pos : Pos} {Q : Value → Shared → Prop}
    (h : wpC M A (eval value env) (fun o s₁ => wpAny M A (eval slice env) (fun i s₂ => wpAny M A (subscriptTail value slice o i) Q E s₂) E s₁) E s) : wpC M A (eval (.Subscript value slice pos) env) Q E s := by
  rw [arm_eval_Subscript]
  refine wpC_bind (wpC_mono h (fun o s₁ h₁ => wpC_then (wpAny_holding (wpAny_mono h₁ (fun i s₂ h₂ => wpC_then (wpAny_standAt (wpC_of h₂))) fun _ _ x => x))) fun _ _ x => x)
end CallC

section CV
open TI
/-- the items of what _comparable_version tells -/
inductive CvI where
  | num (n : Int)
  | bee
noncomputable def CvI.is : CvI → Value → Prop
  | .num n, v => ∃ u, v = .int n u
  | .bee, v => ∃ u, v = .str "b" u
inductive All2 {α β : Type} (P : α → β → Prop) : List α → List β → Prop where
  | nil : All2 P [] []
  | cons {a : α} {b : β} {as : List α} {bs : List β} (h : P a b) (t : All2 P as bs) : All2 P (a :: as) (b :: bs)
noncomputable def CvAre (vs : List Value) (ds : List CvI) : Prop := All2 (fun v d => CvI.is d v) vs ds
noncomputable def inS (x : Str) : Bool := !(Builtin.Str.occurrences "._+-" x 0 ("._+-" : Str).length 1).isEmpty
/-- what one piece of a text adds -/
inductive Pc : Str → List CvI → Prop where
  | skip {x : Str} (h : inS x = true) : Pc x []
  | num {x : Str} {n : Int} (h : _root_.PySem.intText? x = some n) (hl : x.length ≤ 640) (hn : inS x = false) : Pc x [.num 100, .num n]
  | bee : Pc "b" [.num 30, .bee]

theorem extend_tup {prog : Program} {w : World} {A : Around} {E : Value → Shared → Prop} {s : Shared} {h₀ : Heap} {L : Addr} {m : Str → Option Value} {D b : Addr} {ys : List Value} {n n2 : Nat} {its2 : Array Value} {own rest : List (Addr × Obj)} {Q : Value → Shared → Prop}
    (F : Fr h₀ L s.heap m) (N : News h₀ L s.heap (own ++ (D, W.listOf ys.toArray n) :: rest)) (hown : ∀ p ∈ own, p.1 ≠ D) (hap : ∀ p ∈ rest, p.1 ≠ D)
    (hb : s.heap.get? b = some { cls := .type "tuple", data := .seq its2 n2 })
    (h : ∀ h' n', Fr h₀ L h' m → News h₀ L h' (own ++ (D, W.listOf (ys ++ its2.toList).toArray n') :: rest) → Q .none { s with heap := h' })
    (hsz : ys.length + its2.size ≤ sizeLine) :
    wpAny (model prog w) A (call (.builtin "list.extend") [.ref D, .ref b]) Q E s := by
  have hm := N _ (List.mem_append_right own (List.Mem.head rest))
  have hsz' : ys.toArray.size + its2.size ≤ sizeLine := by rw [List.size_toArray]; exact hsz
  refine call_meets PySem.F.slot_list_extend ⟨_, hm.1, rfl⟩ PySem.F.entry_list_extend (PySem.F.args_list_extend_2 _ _) (PySem.AutoSeq1.list_extend_list_tuple_0 D ys.toArray n b its2 n2 (extend_door hsz') (Nat.le_trans (Nat.le_add_right _ _) hsz') (Nat.le_succ_of_le hsz')) ⟨hm.1, hb, ?_⟩
  have e : ys.toArray ++ its2 = (ys ++ its2.toList).toArray := by simp
  have ho' : (s.heap.update D (Obj.mapSeq fun x => x ++ its2)).get? D = some (W.listOf (ys ++ its2.toList).toArray (if (ys.toArray ++ its2).size == ys.toArray.size then n else n + 1)) := by
    rw [Heap.get?_update_self _ hm.1 (by show Obj.isFreed (Obj.mapSeq _ { cls := .type "list", dict := none, data := .seq ys.toArray n, slots := #[] }) = false; rw [mapSeq_app]; rfl)]
    show some (Obj.mapSeq _ { cls := .type "list", dict := none, data := .seq ys.toArray n, slots := #[] }) = _
    rw [mapSeq_app, e]
  exact h _ _ (F.change (Heap.SameBut.update ..) hm.2.1 hm.2.2) (N.setIn hown hap (Heap.SameBut.update ..) ho')
theorem cv_apart {lr l' : Addr} {o o' : Obj} {frs frs' own : List (Addr × Obj)} (hadr : ((lr, o) :: frs').map (·.1) = ((l', o') :: frs).map (·.1)) (hoff : OwnOff own (((l', o') :: frs).map (·.1))) (l1 : ∀ p ∈ frs, p.1 < l') :
    (∀ p ∈ frs' ++ own, p.1 ≠ lr) ∧ (∀ p ∈ (lr, o) :: own, p.1 ∉ frs'.map (·.1)) := by
  simp only [List.map_cons, List.cons.injEq] at hadr
  obtain ⟨rfl, hm⟩ := hadr
  have hne : ∀ b ∈ frs'.map (·.1), b ≠ lr := fun b hb => by
    rw [hm] at hb
    obtain ⟨p, hp, rfl⟩ := List.mem_map.mp hb
    exact Nat.ne_of_lt (l1 p hp)
  refine ⟨fun p hp => ?_, fun p hp hq => ?_⟩
  · rcases List.mem_append.mp hp with hp | hp
    · exact hne _ (List.mem_map.mpr ⟨p, hp, rfl⟩)
    · exact hoff p hp _ (by simp)
  · rcases List.mem_cons.mp hp with rfl | hp
    · exact hne _ hq rfl
    · exact hoff p hp _ (by rw [List.map_cons, ← hm]; exact List.mem_cons_of_mem _ hq) rfl
theorem All2.len {α β : Type} {P : α → β → Prop} {as : List α} {bs : List β} (h : All2 P as bs) : as.length = bs.length := by
  induction h with
  | nil => rfl
  | cons _ _ ih => simp [ih]
theorem All2.app {α β : Type} {P : α → β → Prop} {as cs : List α} {bs ds : List β} (h : All2 P as bs) (k : All2 P cs ds) : All2 P (as ++ cs) (bs ++ ds) := by
  induction h with
  | nil => exact k
  | cons h _ ih => exact .cons h ih
theorem All2.at {α β : Type} {P : α → β → Prop} {as : List α} {bs : List β} (h : All2 P as bs) : ∀ {i : Nat} {a : α}, as[i]? = some a → ∃ b, bs[i]? = some b ∧ P a b := by
  induction h with
  | nil => intro i a h; cases i <;> cases h
  | cons h _ ih =>
    intro i a q
    cases i with
    | zero => obtain rfl := Option.some.inj q; exact ⟨_, rfl, h⟩
    | succ i => exact ih q
theorem take_flat {α : Type} {outs : List (List α)} {i : Nat} {o : List α} (h : outs[i]? = some o) : (outs.take (i + 1)).flatten = (outs.take i).flatten ++ o := by
  rw [List.take_add_one, h]; simp

noncomputable def CvJ (frs : List (Addr × Obj)) (outs : List (List CvI)) (i : Nat) (m₁ : Str → Option Value) (news₁ : List (Addr × Obj)) : Prop :=
  ∃ lr us frs' nn, news₁ = (lr, W.listOf us.toArray nn) :: frs' ∧ SameUp frs frs' ∧ CvAre us (outs.take i).flatten ∧ m₁ "result" = some (.ref lr)
theorem cv_end {hb h₆ : Heap} {L lr : Addr} {m₆ : Str → Option Value} {pre frs frs' own : List (Addr × Obj)} {us : List Value} {n₆ i tk : Nat} {adr : List Addr} {outs : List (List CvI)} {s₁ : Shared}
    (F : Fr hb L h₆ m₆) (N : News hb L h₆ (pre ++ (lr, W.listOf us.toArray n₆) :: (frs' ++ own))) (hadr : lr :: frs'.map (·.1) = adr) (SU : SameUp frs frs') (hus : CvAre us (outs.take i).flatten) (mres : m₆ "result" = some (.ref lr)) :
    InvEndN hb L (CvJ frs outs i) own adr s₁ { s₁ with heap := h₆, toks := tk } :=
  ⟨_, _, m₆, _, (lr, W.listOf us.toArray n₆) :: frs', rfl, F, N, fun p hp => List.mem_append_right _ (by rw [← List.cons_append]; exact List.mem_append_left _ hp), fun p hp => List.mem_append_right _ (List.mem_cons_of_mem _ (List.mem_append_right _ hp)), hadr, lr, us, frs', n₆, rfl, SU, hus, mres⟩

theorem sameUp_adr {a b : List (Addr × Obj)} (h : SameUp a b) : b.map (·.1) = a.map (·.1) := by
  induction a generalizing b with
  | nil => cases b with
    | nil => rfl
    | cons _ _ => exact False.elim h
  | cons p ps ih => cases b with
    | nil => exact False.elim h
    | cons q qs =>
      obtain ⟨h1, _, h3⟩ := h
      simp only [List.map_cons, ih h3, h1]
theorem news_swap {hb h : Heap} {L : Addr} {a b c : List (Addr × Obj)} (N : News hb L h (a ++ (b ++ c))) : News hb L h (a ++ (c ++ b)) := fun p hp => N p (by
  simp only [List.mem_append] at hp ⊢
  rcases hp with h | h | h
  · exact .inl h
  · exact .inr (.inr h)
  · exact .inr (.inl h))
theorem take_flat_len {α : Type} (outs : List (List α)) (i : Nat) : (outs.take i).flatten.length ≤ outs.flatten.length := by
  have h : outs.flatten.length = (outs.take i).flatten.length + (outs.drop i).flatten.length := by
    rw [← List.length_append, ← List.flatten_append, List.take_append_drop]
  omega
theorem strs_at {vs : List Value} {xs : List Str} (h : StrsAre vs xs) {i : Nat} {v : Value} (hv : vs[i]? = some v) : ∃ x u, v = .str x u ∧ xs[i]? = some x := by
  induction h generalizing i with
  | nil => cases i <;> cases hv
  | cons =>
    rename_i ih
    cases i with
    | zero => obtain rfl := Option.some.inj hv; exact ⟨_, _, rfl, rfl⟩
    | succ i => exact ih hv

theorem cv_call {prog : Program} {w : World} {A : Around} {E : Value → Shared → Prop} {s : Shared} {mg mb : Str → Option Value} {Q : Value → Shared → Prop} {t : Str} {tx : Tok} {toks : List Tk} {last : List Nat} {hb : Heap} {l : List Env} {frs : List (Addr × Obj)} {outs : List (List CvI)}
    (R : Rt A hb s.heap l frs) (G : Gr w mg mb hb) (hroom : A.depth + 10 < recursionLimit) (hu : A.units + 100 < cLine) (hA : A.handled = none)
    (ht : t.cps.toList = flat toks ++ last) (hk : OkT toks last) (hz : t.cps.size < 10000) (hp : All2 Pc (pieces toks last) outs) (hlen : outs.flatten.length ≤ 1000)
    (h : ∀ u vs h' tk', Ret hb frs h' → h'.IsList u vs.toArray → CvAre vs outs.flatten → hb.get? u = none → Q (.ref u) { s with heap := h', toks := tk' }) :
    wpC (model prog w) A (call (.ref 44) [.str t tx] []) Q E s := by
  obtain ⟨X, T⟩ := id G
  refine' call_rt (binds := [("version", .str t tx)]) R X T.nolimit (by omega) ?ho ?hc ?hbind ?hloc ?hco ?hgen ?hk ?hcell ?_
  walk_at "mine fn"
  case hbind => exact BindsTo.of_eq rfl
  walk_at "mine enter"
  intro L h₁ tk₁ F N
  refine C_step ?_
  k_fold
  walk_at "mine steps"
  refine C_step ?_
  k_fold
  walk_at "mine steps"
  refine C_execs_cons (For_C (wpC_of ?_))
  k_fold
  walk_at "mine steps"
  (with_reducible rename Fr _ _ _ _ => F₂)
  (with_reducible rename News _ _ _ _ => N₂)
  have h36 := F₂.keep _ _ (X _ _ (show (hd.heap_39 w.params).lookup 36 = some _ by k_is))
  refine getMethod_builtin ⟨_, h36, rfl⟩ plain_pattern slot_split type_split (fun a e => ⟨_, Value.ref.inj e ▸ h36, rfl⟩) ?_
  walk_at "mine steps"
  (with_reducible rename Fr _ _ _ _ => F₃)
  (with_reducible rename News _ _ _ _ => N₃)
  refine wpAny_call_entry slot_split ⟨_, F₃.keep _ _ (X _ _ (show (hd.heap_39 w.params).lookup 36 = some _ by k_is)), rfl⟩ entry_split (split_tree (K := hd.heap_39 w.params) (X.keeps F₃.keep) (by k_is) (by k_is) (by decide +kernel) ht hk hz fun vs tk' hvs => ⟨_, rfl, ?_⟩) (args_split _ _)
  k_unfold
  have hls : ∀ g : Heap, Heap.IsList (Heap.push g { cls := Value.type "list", data := Data.seq vs.toArray }) g.objs.size vs.toArray := fun g => ⟨_, Heap.get?_push_size _ rfl, rfl, _, rfl⟩
  (with_reducible rename (∀ p ∈ frs, p.1 < _) => l1)
  refine iter_listC (J := CvJ frs outs)
    rfl rfl hA (hls _) (Nat.ne_of_gt F₃.ns.lt) (fun p hp => Nat.ne_of_lt (Heap.lt_size (N₃ p hp).1)) (F₃.push _) (fun p hp => ⟨Heap.get?_push_of_some _ (N₃ p hp).1, (N₃ p hp).2⟩) ⟨_, [], frs, 0, rfl, SameUp.refl _, .nil, rfl⟩ ?_ ?_
  · rintro i v m₁ news₁ h₄ tk₄ own hv hadr hoff ⟨lr, us, frs', nn, rfl, SU, hus, mres⟩ hls₄ F₄ N₄
    obtain ⟨x, ux, o, rfl, hpc, ho⟩ : ∃ x ux o, v = .str x ux ∧ Pc x o ∧ outs[i]? = some o := by
      obtain ⟨x, ux, rfl, hx⟩ := strs_at hvs hv
      obtain ⟨o, ho, hpc⟩ := hp.at hx
      exact ⟨x, ux, o, rfl, hpc, ho⟩
    have hsz : us.length ≤ 1000 := by
      rw [hus.len]
      exact Nat.le_trans (take_flat_len _ _) hlen
    obtain ⟨hap1, hap2⟩ := cv_apart hadr hoff l1
    refine C_execs_cons (C_If (wpC_of ?_))
    clear F₃ N₃ h36 hls
    k_fold
    walk_at "mine steps"
    · refine C_execs_cons (C_Try (C_execs_cons (C_Assign_Name (C_Call_type (T := "int") ?_))))
      k_fold
      walk_at "mine steps"
      refine C_args_cons (wpC_of ?_)
      walk_at "mine steps"
      refine C_args_cons (wpC_of ?_)
      walk_at "mine steps"
      refine C_args_nil ?_
      cases hpc with
      | skip hs =>
        exfalso
        (rename (Builtin.Str.occurrences _ _ _ _ _).isEmpty = true => hq)
        unfold inS at hs
        rw [hq] at hs
        cases hs
      | num hn hl _ =>
        refine wpC_of (int2_reads hn hl ?_)
        k_fold
        walk_at "mine steps"
        refine C_step ?_
        k_fold
        walk_at "mine steps"
        refine C_execs_nil (C_execs_nil (C_step ?_))
        k_fold
        walk_at "mine steps"
        (with_reducible rename Fr _ _ _ _ => F₅)
        (with_reducible rename News _ _ _ _ => N₅)
        (with_reducible rename (∀ p ∈ ((lr, W.listOf us.toArray nn) :: frs' ++ own), p.1 < _) => l2)
        refine extend_tup (own := [_]) F₅ N₅ (fun p hp => Nat.ne_of_gt (by rw [List.mem_singleton.mp hp]; exact l2 _ List.mem_cons_self)) hap1 (N₅ _ List.mem_cons_self).1 (fun h₆ n₆ F₆ N₆ => ?_) ?_
        · refine C_execs_nil ?_
          refine C_execs_nil ?_
          refine cv_end (pre := [_]) F₆ N₆ hadr SU ?_ mres
          rw [take_flat ho]
          exact hus.app (.cons ⟨_, rfl⟩ (.cons ⟨_, rfl⟩ .nil))
        · rw [sizeLine_eq]; simp; omega
      | bee =>
        refine int2_refuses hA (by decide +kernel) (by decide +kernel) (by decide +kernel) fun h₅ tk₅ e₅ hx => ?_
        have N₄' : News hb L h₄ (((lr, W.listOf us.toArray nn) :: own) ++ frs') := fun p hp => N₄ p (by
          simp only [List.cons_append, List.mem_cons, List.mem_append] at hp ⊢
          rcases hp with h | h | h
          · exact .inl h
          · exact .inr (.inr h)
          · exact .inr (.inl h))
        refine caught_VE (new := (lr, W.listOf us.toArray nn) :: own) (frs := frs') R.stack (R.Fs.up SU) hx F₄ N₄' ?_ G (fun h₆ frs₆ SU₆ Fs₆ F₆ N₆ => ?_) rfl rfl
        · intro p hp hm
          rcases List.mem_cons.mp hm with q | hm
          · exact (N₄' p (List.mem_append_left _ hp)).2.1 q
          · exact hap2 p hp hm
        clear N₄ F₄ N₄'
        k_fold
        walk_at "mine steps"
        refine C_step ?_
        k_fold
        walk_at "mine steps"
        (with_reducible rename Fr _ _ _ _ => F₇)
        (with_reducible rename News _ _ _ _ => N₇)
        (with_reducible rename (∀ p ∈ ((lr, W.listOf us.toArray nn) :: own ++ frs₆), p.1 < _) => l2)
        have hadr₆ : frs₆.map (·.1) = frs'.map (·.1) := sameUp_adr SU₆
        refine extend_tup (own := [_]) F₇ N₇ (fun p hp => Nat.ne_of_gt (by rw [List.mem_singleton.mp hp]; exact l2 _ List.mem_cons_self)) (fun p hp => ?_) (N₇ _ List.mem_cons_self).1 (fun h₈ n₈ F₈ N₈ => ?_) ?_
        · rcases List.mem_append.mp hp with hp | hp
          · exact hap1 p (List.mem_append_right _ hp)
          · have h1 : p.1 ∈ frs₆.map (·.1) := List.mem_map.mpr ⟨p, hp, rfl⟩
            rw [hadr₆] at h1
            obtain ⟨q, hq, e⟩ := List.mem_map.mp h1
            rw [← e]
            exact hap1 q (List.mem_append_left _ hq)
        · refine C_execs_nil ?_
          refine C_execs_nil ?_
          refine cv_end (pre := [_]) (frs' := frs₆) F₈ (news_swap (a := [_, _]) N₈) ?_ (SU.trans SU₆) ?_ mres
          · rw [hadr₆]; exact hadr
          · rw [take_flat ho]
            exact hus.app (.cons ⟨_, rfl⟩ (.cons ⟨_, rfl⟩ .nil))
        · rw [sizeLine_eq]; simp; omega
    · cases hpc with
      | skip hs =>
        refine C_execs_nil (C_execs_nil ?_)
        refine cv_end (pre := []) F₄ N₄ hadr SU ?_ mres
        rw [take_flat ho, List.append_nil]
        exact hus
      | num hn hl hs =>
        exfalso
        (rename (Builtin.Str.occurrences _ _ _ _ _).isEmpty = false => hq)
        unfold inS at hs
        rw [hq] at hs
        cases hs
      | bee =>
        exfalso
        (rename (Builtin.Str.occurrences _ _ _ _ _).isEmpty = false => hq)
        revert hq
        decide +kernel
  · rintro m₁ news₁ h₄ tk₄ ⟨lr, us, frs', nn, rfl, SU, hus, mres⟩ F₄ N₄
    refine C_step ?_
    k_fold
    walk_at "mine steps"
    refine h lr us h₄ _ (Ret.leave (new := [_]) SU F₄ N₄) ⟨_, (N₄ _ List.mem_cons_self).1, rfl, _, rfl⟩ ?_ (N₄ _ List.mem_cons_self).2.2
    have hl : vs.length = outs.length := by rw [StrsAre.len_eq hvs, hp.len]
    rw [hl, List.take_length] at hus
    exact hus
end CV

section Lt
open PySem.SeqAt
open AutoSeq1 (wpAny_loadPart')
open MeetsSeq MeetsSeq2 MeetsSeq3 SeqRoads2
/-- x op y answers b -/
noncomputable def OpAt (op : CmpOp) (A : Around) (s : Shared) (x y : Value) (b : Bool) : Prop :=
  ∀ (prog : Program) (w : World) (E : Value → Shared → Prop) (Q : Value → Shared → Prop), Q (.bool b) s → wpAny (model prog w) A (richCompare op x y) Q E s
noncomputable def szB (op : CmpOp) (m n : Nat) : Bool := match op with | .Lt => decide (m < n) | _ => decide (m ≤ n)
/-- by the first pair that differs -/
noncomputable def scan (e c : Nat → Bool) (sz : Bool) : Nat → Nat → Bool
  | _, 0 => sz
  | i, f + 1 => if e i then scan e c sz (i + 1) f else c i

theorem lt_loopAt {op : CmpOp} {code : Nat} (hop : (op = .Lt ∧ code = 0) ∨ (op = .LtE ∧ code = 1)) (l b : Addr) (items items2 : Array Value) (n n2 : Nat) (dd dd2 : Option Addr) (sl sl2 : Array (Option Value)) (e c : Nat → Bool) (k : Nat) :
    ∀ i : Nat, min items.size items2.size - i = k → Meets (Builtin.«list.__eq__.loop» ⟨[.ref l, .ref b, rawInt i, rawInt code], []⟩)
      (fun A R s => s.heap.get? l = some { cls := .type "list", dict := dd, data := .seq items n, slots := sl } ∧ s.heap.get? b = some { cls := .type "list", dict := dd2, data := .seq items2 n2, slots := sl2 } ∧
        (∀ j (h1 : j < items.size) (h2 : j < items2.size), EqAt A.in1 s items[j] items2[j] (e j)) ∧
        (∀ j (h1 : j < items.size) (h2 : j < items2.size), e j = false → (∀ j', j' < j → e j' = true) → OpAt op A.in1 s items[j] items2[j] (c j)) ∧ (∀ j', j' < i → e j' = true) ∧
        R (.ok (.ret (.bool (scan e c (szB op items.size items2.size) i k)))) s) := by
  induction k with
  | zero =>
    intro i hk prog w A R s h
    obtain ⟨hp, g, d, tk, os⟩ := s; obtain ⟨hl, hb, he, hc', hi', h⟩ := h
    rcases hop with ⟨rfl, rfl⟩ | ⟨rfl, rfl⟩
    all_goals
      wp_walk using wpAny_loadPart' hl, wpAny_loadPart' hb
      have hor : items.size ≤ i ∨ items2.size ≤ i := by omega
      rcases hor with hor | hor
      · have hi1 : items[((i : Nat) : Int).toNat]? = none := by simp; omega
        rw [hi1]
        wp_walk using wpAny_loadPart' hl, wpAny_loadPart' hb
        exact h
      · have hi2 : items2[((i : Nat) : Int).toNat]? = none := by simp; omega
        rw [hi2]
        cases items[((i : Nat) : Int).toNat]? <;>
          (wp_walk using wpAny_loadPart' hl, wpAny_loadPart' hb; exact h)
  | succ k ih =>
    intro i hk prog w A R s h
    obtain ⟨hp, g, d, tk, os⟩ := s; obtain ⟨hl, hb, he, hc', hi', h⟩ := h
    have hlt : i < items.size := by omega
    have hlt2 : i < items2.size := by omega
    have hi1 : items[((i : Nat) : Int).toNat]? = some items[i] := by simp [hlt]
    have hi2 : items2[((i : Nat) : Int).toNat]? = some items2[i] := by simp [hlt2]
    have hcc : ((i : Int) + 1) = ((i + 1 : Nat) : Int) := by push_cast; rfl
    have hop' := hop
    rcases hop with ⟨rfl, rfl⟩ | ⟨rfl, rfl⟩
    all_goals
      wp_walk using wpAny_loadPart' hl, wpAny_loadPart' hb
      rw [hi1, hi2]
      refine wpAny_bind (he i hlt hlt2 prog w _ _ ?_)
      cases hb' : e i with
      | true =>
        rw [scan, hb', if_pos rfl] at h
        wp_walk
        rw [hcc]
        exact ⟨plainId_quiet plain_eq_loop _, codeAny_builtin entry_eq_loop (by
          rw [Around.under_plainId plain_eq_loop _]
          exact ih (i + 1) (by omega) prog w A R _ ⟨hl, hb, he, hc', fun j' hj' => (Nat.lt_succ_iff_lt_or_eq.mp hj').elim (hi' j') (fun q => by rw [q]; exact hb'), h⟩)⟩
      | false =>
        rw [scan, hb', if_neg Bool.false_ne_true] at h
        wp_walk using wpAny_loadPart' hl, wpAny_loadPart' hb
        rw [hi1, hi2]
        dsimp only
        refine wpAny_bind (hc' i hlt hlt2 hb' hi' prog w _ _ ?_)
        wp_walk
        exact h

theorem list_ltAt {op : CmpOp} {code : Nat} (hop : (op = .Lt ∧ code = 0) ∨ (op = .LtE ∧ code = 1)) (l b : Addr) (items items2 : Array Value) (n n2 : Nat) (dd dd2 : Option Addr) (sl sl2 : Array (Option Value)) (e c : Nat → Bool) :
    Meets ((match op with | .Lt => Builtin.«list.__lt__» | _ => Builtin.«list.__le__») ⟨[.ref l, .ref b], []⟩)
      (fun A R s => s.heap.get? l = some { cls := .type "list", dict := dd, data := .seq items n, slots := sl } ∧ s.heap.get? b = some { cls := .type "list", dict := dd2, data := .seq items2 n2, slots := sl2 } ∧
        (∀ j (h1 : j < items.size) (h2 : j < items2.size), EqAt A.in1 s items[j] items2[j] (e j)) ∧
        (∀ j (h1 : j < items.size) (h2 : j < items2.size), e j = false → (∀ j', j' < j → e j' = true) → OpAt op A.in1 s items[j] items2[j] (c j)) ∧
        R (.ok (.ret (.bool (scan e c (szB op items.size items2.size) 0 (min items.size items2.size))))) s) := by
  intro prog w A R s h
  obtain ⟨hp, g, d, tk, os⟩ := s; obtain ⟨hl, hb, he, hc, h⟩ := h
  have f3 := AutoSeq1.sub_list_list
  have hop' := hop
  rcases hop with ⟨rfl, rfl⟩ | ⟨rfl, rfl⟩
  all_goals
    dsimp only
    wp_walk using wpAny_loadPart' hl, wpAny_loadPart' hb
    exact ⟨plainId_quiet plain_eq_loop _, codeAny_builtin entry_eq_loop (by
      rw [Around.under_plainId plain_eq_loop _]
      exact lt_loopAt hop' l b items items2 n n2 dd dd2 sl sl2 e c _ 0 rfl prog w A R _ ⟨hl, hb, he, hc, (fun _ q => absurd q (Nat.not_lt_zero _)), h⟩)⟩

theorem tuple_ltAt {op : CmpOp} (hop : op = .Lt ∨ op = .LtE) (l b : Addr) (items items2 : Array Value) (n n2 : Nat) (dd dd2 : Option Addr) (sl sl2 : Array (Option Value)) (e c : Nat → Bool) :
    Meets ((match op with | .Lt => Builtin.«tuple.__lt__» | _ => Builtin.«tuple.__le__») ⟨[.ref l, .ref b], []⟩)
      (fun A R s => s.heap.get? l = some { cls := .type "tuple", dict := dd, data := .seq items n, slots := sl } ∧ s.heap.get? b = some { cls := .type "tuple", dict := dd2, data := .seq items2 n2, slots := sl2 } ∧
        (∀ j (h1 : j < items.size) (h2 : j < items2.size), EqAt A.in1 s items[j] items2[j] (e j)) ∧
        (∀ j (h1 : j < items.size) (h2 : j < items2.size), e j = false → (∀ j', j' < j → e j' = true) → OpAt op A.in1 s items[j] items2[j] (c j)) ∧
        R (.ok (.ret (.bool (scan e c (szB op items.size items2.size) 0 (min items.size items2.size))))) s) :=
  .of_wp fun prog w A R s h => by
    obtain ⟨hp, g, d, tk, os⟩ := s; obtain ⟨hl, hb, he, hc, h⟩ := h
    have f2 := AutoSeq1.sub_tuple_tuple
    have hZ : (items.toList.zip items2.toList).length = min items.size items2.size := by simp
    generalize hsz : szB op items.size items2.size = sz at h
    rcases hop with rfl | rfl
    all_goals
      dsimp only
      wp_walk using wpAny_loadPart' hl, wpAny_loadPart' hb, wpAny_forIn_list _ (fun rest b s' => b.1 = none ∧ s' = ⟨hp, g, d, tk, os⟩ ∧ ∃ i, rest = (items.toList.zip items2.toList).drop i ∧ (∀ j', j' < i → e j' = true) ∧ i ≤ min items.size items2.size ∧
        R (.ok (.ret (.bool (scan e c sz i (min items.size items2.size - i))))) ⟨hp, g, d, tk, os⟩) _
      case turn =>
        rintro ⟨y, x⟩ rest b s' ⟨hb', rfl, i, hz, hi', hle, hR⟩
        have hlt : i < (items.toList.zip items2.toList).length := by
          rcases Nat.lt_or_ge i (items.toList.zip items2.toList).length with h' | h'
          · exact h'
          · rw [List.drop_of_length_le h'] at hz; cases hz
        have hm : i < min items.size items2.size := hZ ▸ hlt
        have h1 : i < items.size := Nat.lt_of_lt_of_le hm (Nat.min_le_left _ _)
        have h2 : i < items2.size := Nat.lt_of_lt_of_le hm (Nat.min_le_right _ _)
        rw [List.drop_eq_getElem_cons hlt] at hz
        injection hz with hyx hrest
        have hy : y = items[i] := by have := congrArg Prod.fst hyx; simpa using this
        have hx : x = items2[i] := by have := congrArg Prod.snd hyx; simpa using this
        subst hy hx
        obtain ⟨f, hf⟩ : ∃ f, min items.size items2.size - i = f + 1 := ⟨min items.size items2.size - i - 1, by omega⟩
        rw [hf, scan] at hR
        refine wpAny_bind (he i h1 h2 prog w _ _ ?_)
        cases hy : e i with
        | true =>
          rw [hy, if_pos rfl] at hR
          wp_walk
          refine ⟨rfl, rfl, i + 1, hrest, fun j' hj' => (Nat.lt_succ_iff_lt_or_eq.mp hj').elim (hi' j') (fun q => by rw [q]; exact hy), hm, ?_⟩
          rw [show min items.size items2.size - (i + 1) = f by omega]
          exact hR
        | false =>
          rw [hy, if_neg Bool.false_ne_true] at hR
          have hop2 := hc i h1 h2 hy hi' prog w
          wp_walk using hop2 _ _
          exact ⟨_, rfl, hR⟩
      case fin =>
        rintro ⟨b1, b2⟩ s' ⟨hb', rfl, i, hz, hi', hle, hR⟩
        simp only at hb'
        subst hb'
        have hge : min items.size items2.size ≤ i := by
          rcases Nat.lt_or_ge i (items.toList.zip items2.toList).length with h' | h'
          · rw [List.drop_eq_getElem_cons h'] at hz; cases hz
          · exact hZ ▸ h'
        rw [show min items.size items2.size - i = 0 by omega, scan] at hR
        subst hsz
        wp_walk
        exact ⟨_, rfl, hR⟩
      case h =>
        exact ⟨rfl, rfl, 0, rfl, (fun _ q => absurd q (Nat.not_lt_zero _)), Nat.zero_le _, h⟩
end Lt

section Lv
open PySem.SeqAt
/-- a kind of data: how it is read, when two are equal, how they stand in order -/
structure Lv (X : Type) where
  rd : Heap → Value → X → Prop
  eq : X → X → Bool
  cmp : CmpOp → X → X → Bool
  ok : X → X → Bool
  dep : Nat
structure LvOk {X : Type} (L : Lv X) : Prop where
  keeps : ∀ {h h' : Heap} {v : Value} {x : X}, L.rd h v x → h.StaysIn h' → L.rd h' v x
  det : ∀ {h : Heap} {v : Value} {x x' : X}, L.rd h v x → L.rd h v x' → L.eq x x' = true
  eqAt : ∀ {A : Around} {s : Shared} {v v' : Value} {x x' : X}, L.rd s.heap v x → L.rd s.heap v' x' → A.units + L.dep < cLine → EqAt A s v v' (L.eq x x')
  opAt : ∀ {op : CmpOp} {A : Around} {s : Shared} {v v' : Value} {x x' : X}, (op = .Lt ∨ op = .LtE) → L.rd s.heap v x → L.rd s.heap v' x' → A.units + L.dep < cLine → L.ok x x' = true → OpAt op A s v v' (L.cmp op x x')

noncomputable def isLe : CmpOp → Bool | .LtE => true | _ => false
noncomputable def eqL {X : Type} (e : X → X → Bool) : List X → List X → Bool
  | [], [] => true
  | x :: xs, y :: ys => e x y && eqL e xs ys
  | _, _ => false
noncomputable def lexB {X : Type} (e c : X → X → Bool) (le : Bool) : List X → List X → Bool
  | [], [] => le
  | [], _ :: _ => true
  | _ :: _, [] => false
  | x :: xs, y :: ys => if e x y then lexB e c le xs ys else c x y
noncomputable def lexOk {X : Type} (e k : X → X → Bool) : List X → List X → Bool
  | x :: xs, y :: ys => if e x y then lexOk e k xs ys else k x y
  | _, _ => true
noncomputable def atB {X : Type} (f : X → X → Bool) (xs ys : List X) (j : Nat) : Bool := match xs[j]?, ys[j]? with | some x, some y => f x y | _, _ => true

theorem scan_shift (e c : Nat → Bool) (sz : Bool) (i f : Nat) : scan e c sz (i + 1) f = scan (fun j => e (j + 1)) (fun j => c (j + 1)) sz i f := by
  induction f generalizing i with
  | zero => rfl
  | succ f ih => simp only [scan, ih]
theorem atB_cons {X : Type} (f : X → X → Bool) (x y : X) (xs ys : List X) : (fun j => atB f (x :: xs) (y :: ys) (j + 1)) = atB f xs ys := by funext j; simp [atB]
theorem szB_succ {op : CmpOp} (h : op = .Lt ∨ op = .LtE) (m n : Nat) : szB op (m + 1) (n + 1) = szB op m n := by
  rcases h with rfl | rfl <;> simp [szB]
theorem scan_lex {X : Type} (e c : X → X → Bool) {op : CmpOp} (hop : op = .Lt ∨ op = .LtE) : ∀ xs ys : List X, scan (atB e xs ys) (atB c xs ys) (szB op xs.length ys.length) 0 (min xs.length ys.length) = lexB e c (isLe op) xs ys
  | [], [] => by rcases hop with rfl | rfl <;> rfl
  | [], _ :: _ => by rcases hop with rfl | rfl <;> simp [scan, szB, lexB]
  | _ :: _, [] => by rcases hop with rfl | rfl <;> simp [scan, szB, lexB]
  | x :: xs, y :: ys => by
    rw [lexB, List.length_cons, List.length_cons, Nat.succ_min_succ, szB_succ hop]
    show (if atB e (x :: xs) (y :: ys) 0 then scan _ _ _ 1 _ else atB c (x :: xs) (y :: ys) 0) = _
    rw [scan_shift, atB_cons, atB_cons, scan_lex e c hop xs ys]
    rfl
theorem lexOk_at {X : Type} (e k : X → X → Bool) : ∀ (xs ys : List X) (j : Nat) (x y : X), lexOk e k xs ys = true → xs[j]? = some x → ys[j]? = some y → (∀ j', j' < j → atB e xs ys j' = true) → e x y = false → k x y = true
  | [], _, j, x, y, _, hx, _, _, _ => by simp at hx
  | _ :: _, [], j, x, y, _, _, hy, _, _ => by simp at hy
  | a :: xs, b :: ys, 0, x, y, h, hx, hy, _, he => by
    simp at hx hy
    subst hx hy
    rw [lexOk, he] at h
    exact h
  | a :: xs, b :: ys, j + 1, x, y, h, hx, hy, hall, he => by
    have h0 : e a b = true := hall 0 (Nat.succ_pos _)
    rw [lexOk, h0, if_pos rfl] at h
    exact lexOk_at e k xs ys j x y h (by simpa using hx) (by simpa using hy) (fun j' hj' => by
      have := hall (j' + 1) (Nat.succ_lt_succ hj')
      simpa [atB] using this) he
theorem all_eqL {X : Type} (e : X → X → Bool) : ∀ xs ys : List X, xs.length = ys.length → (List.range xs.length).all (atB e xs ys) = eqL e xs ys
  | [], [], _ => rfl
  | x :: xs, y :: ys, h => by
    rw [List.length_cons, List.range_succ_eq_map, List.all_cons, List.all_map]
    rw [show (atB e (x :: xs) (y :: ys) ∘ Nat.succ) = atB e xs ys from atB_cons e x y xs ys, all_eqL e xs ys (by simpa using h)]
    rfl
theorem eqL_len {X : Type} (e : X → X → Bool) : ∀ xs ys : List X, xs.length ≠ ys.length → eqL e xs ys = false
  | [], [], h => absurd rfl h
  | [], _ :: _, _ => rfl
  | _ :: _, [], _ => rfl
  | x :: xs, y :: ys, h => by rw [eqL, eqL_len e xs ys (by simpa using h), Bool.and_false]

theorem All2.get {α β : Type} {P : α → β → Prop} {as : List α} {bs : List β} (h : All2 P as bs) (j : Nat) (hj : j < as.length) : ∃ b, bs[j]? = some b ∧ P as[j] b := h.at (List.getElem?_eq_getElem hj)
theorem All2.mono {α β : Type} {P Q : α → β → Prop} {as : List α} {bs : List β} (h : All2 P as bs) (k : ∀ a b, P a b → Q a b) : All2 Q as bs := by
  induction h with
  | nil => exact .nil
  | cons h _ ih => exact .cons (k _ _ h) ih
theorem All2.det {α X : Type} {P : α → X → Prop} {e : X → X → Bool} (k : ∀ a x x', P a x → P a x' → e x x' = true) {as : List α} {xs ys : List X} (h : All2 P as xs) : All2 P as ys → eqL e xs ys = true := by
  induction h generalizing ys with
  | nil => intro h'; cases h'; rfl
  | cons h _ ih =>
    intro h'
    cases h' with
    | cons h2 t2 => rw [eqL, k _ _ _ h h2, ih t2]; rfl

noncomputable def itemsRd {X : Type} (L : Lv X) (h : Heap) (vs : List Value) (xs : List X) : Prop := All2 (fun v x => L.rd h v x) vs xs
noncomputable def Lv.list {X : Type} (L : Lv X) : Lv (List X) where
  rd h v xs := ∃ a vs, v = .ref a ∧ h.IsList a vs.toArray ∧ itemsRd L h vs xs
  eq := eqL L.eq
  cmp op := lexB L.eq (L.cmp op) (isLe op)
  ok := lexOk L.eq L.ok
  dep := L.dep + 2
noncomputable def Lv.tuple {X : Type} (L : Lv X) : Lv (List X) where
  rd h v xs := ∃ a vs, v = .ref a ∧ h.IsTuple a vs.toArray ∧ itemsRd L h vs xs
  eq := eqL L.eq
  cmp op := lexB L.eq (L.cmp op) (isLe op)
  ok := lexOk L.eq L.ok
  dep := L.dep + 2

section
variable {X : Type} {L : Lv X}
theorem items_eq (K : LvOk L) {A : Around} {s : Shared} {vs ws : List Value} {xs ys : List X} (h : itemsRd L s.heap vs xs) (k : itemsRd L s.heap ws ys) (hu : A.units + L.dep < cLine) :
    ∀ j (h1 : j < vs.toArray.size) (h2 : j < ws.toArray.size), EqAt A s vs.toArray[j] ws.toArray[j] (atB L.eq xs ys j) := by
  intro j h1 h2
  obtain ⟨x, hx, hr⟩ := h.get j (by simpa using h1)
  obtain ⟨y, hy, hr'⟩ := k.get j (by simpa using h2)
  have e : atB L.eq xs ys j = L.eq x y := by simp [atB, hx, hy]
  rw [e]
  exact K.eqAt (by simpa using hr) (by simpa using hr') hu
theorem items_op (K : LvOk L) {op : CmpOp} (hop : op = .Lt ∨ op = .LtE) {A : Around} {s : Shared} {vs ws : List Value} {xs ys : List X} (h : itemsRd L s.heap vs xs) (k : itemsRd L s.heap ws ys) (hu : A.units + L.dep < cLine) (hok : lexOk L.eq L.ok xs ys = true) :
    ∀ j (h1 : j < vs.toArray.size) (h2 : j < ws.toArray.size), atB L.eq xs ys j = false → (∀ j', j' < j → atB L.eq xs ys j' = true) → OpAt op A s vs.toArray[j] ws.toArray[j] (atB (L.cmp op) xs ys j) := by
  intro j h1 h2 hf hall
  obtain ⟨x, hx, hr⟩ := h.get j (by simpa using h1)
  obtain ⟨y, hy, hr'⟩ := k.get j (by simpa using h2)
  have e : atB L.eq xs ys j = L.eq x y := by simp [atB, hx, hy]
  have e' : atB (L.cmp op) xs ys j = L.cmp op x y := by simp [atB, hx, hy]
  rw [e']
  exact K.opAt hop (by simpa using hr) (by simpa using hr') hu (lexOk_at _ _ xs ys j x y hok hx hy hall (by rw [← e]; exact hf))

theorem items_det (K : LvOk L) {h : Heap} {vs : List Value} {xs ys : List X} (a : itemsRd L h vs xs) (b : itemsRd L h vs ys) : eqL L.eq xs ys = true :=
  All2.det (P := fun v x => L.rd h v x) (fun _ _ _ p q => K.det p q) a b
theorem isList_det {h : Heap} {a : Addr} {i i' : Array Value} (x : h.IsList a i) (y : h.IsList a i') : i = i' := by
  obtain ⟨o, ho, _, n, hd⟩ := x
  obtain ⟨o', ho', _, n', hd'⟩ := y
  rw [ho] at ho'
  obtain rfl := Option.some.inj ho'
  rw [hd] at hd'
  injection hd'
theorem isTuple_det {h : Heap} {a : Addr} {i i' : Array Value} (x : h.IsTuple a i) (y : h.IsTuple a i') : i = i' := by
  obtain ⟨o, ho, _, n, hd⟩ := x
  obtain ⟨o', ho', _, n', hd'⟩ := y
  rw [ho] at ho'
  obtain rfl := Option.some.inj ho'
  rw [hd] at hd'
  injection hd'
theorem isList_keeps {h h' : Heap} {a : Addr} {i : Array Value} (x : h.IsList a i) (k : h.StaysIn h') : h'.IsList a i := let ⟨o, ho, r⟩ := x; ⟨o, k _ _ ho, r⟩
theorem isTuple_keeps {h h' : Heap} {a : Addr} {i : Array Value} (x : h.IsTuple a i) (k : h.StaysIn h') : h'.IsTuple a i := let ⟨o, ho, r⟩ := x; ⟨o, k _ _ ho, r⟩

theorem LvOk.list (K : LvOk L) : LvOk L.list where
  keeps := by
    rintro h h' v xs ⟨a, vs, rfl, hl, hi⟩ k
    exact ⟨a, vs, rfl, isList_keeps hl k, hi.mono fun _ _ r => K.keeps r k⟩
  det := by
    rintro h v xs ys ⟨a, vs, rfl, hl, hi⟩ ⟨a', vs', e, hl', hi'⟩
    injection e with e
    subst e
    have := isList_det hl hl'
    obtain rfl : vs = vs' := by simpa using this
    exact items_det K hi hi'
  eqAt := by
    rintro A s v v' xs ys ⟨a, vs, rfl, hl, hi⟩ ⟨b, ws, rfl, hb, hj⟩ hu
    have hu' : A.units + (L.dep + 2) < cLine := hu
    by_cases hab : a = b
    · subst hab
      have := isList_det hl hb
      obtain rfl : vs = ws := by simpa using this
      have e : eqL L.eq xs ys = true := items_det K hi hj
      show EqAt A s _ _ (eqL L.eq xs ys)
      rw [e]
      exact EqAt.same _
    · refine EqAt.of_refs hab ?_
      show RcAt A s _ _ (eqL L.eq xs ys)
      by_cases hz : xs.length = ys.length
      · have hz' : vs.toArray.size = ws.toArray.size := by simp [hi.len, hj.len, hz]
        have r := RcAt.lists hl hb hz' (by omega) (items_eq (A := A.in1) K hi hj (by show A.units + 1 + L.dep < cLine; omega))
        rw [← all_eqL L.eq xs ys hz]
        have e : vs.toArray.size = xs.length := by simp [hi.len]
        rw [e] at r
        exact r
      · rw [eqL_len _ _ _ hz]
        exact RcAt.lists_lengths hl hb (by simp [hi.len, hj.len, hz]) (by omega)
  opAt := by
    rintro op A s v v' xs ys hop ⟨a, vs, rfl, hl, hi⟩ ⟨b, ws, rfl, hb, hj⟩ hu hok prog w E Q h
    have hu' : A.units + (L.dep + 2) < cLine := hu
    obtain ⟨⟨cls, dd, data, sl⟩, ho, hc, n, hd⟩ := id hl
    obtain ⟨⟨cls2, dd2, data2, sl2⟩, ho2, hc2, n2, hd2⟩ := id hb
    simp only at hc hd hc2 hd2
    subst hc hd hc2 hd2
    have he := items_eq (A := A.in1) K hi hj (by show A.units + 1 + L.dep < cLine; omega)
    have hcc := items_op (A := A.in1) K hop hi hj (by show A.units + 1 + L.dep < cLine; omega) hok
    have ans := scan_lex L.eq (L.cmp op) hop xs ys
    rw [← hi.len, ← hj.len] at ans
    have h' : Q (.bool (scan (atB L.eq xs ys) (atB (L.cmp op) xs ys) (szB op vs.toArray.size ws.toArray.size) 0 (min vs.toArray.size ws.toArray.size))) s := by
      simp only [List.size_toArray]
      rw [ans]; exact h
    have hop' := hop
    rcases hop with rfl | rfl
    · exact richCompare_meets_room (op := .Lt) ⟨_, ho, rfl⟩ ⟨_, ho2, rfl⟩ PySem.F.slot_list_lt PySem.F.entry_list_lt (PySem.F.args_list_lt_2 _ _) (list_ltAt (.inl ⟨rfl, rfl⟩) a b vs.toArray ws.toArray n n2 dd dd2 sl sl2 (atB L.eq xs ys) (atB (L.cmp .Lt) xs ys))
        ⟨ho, ho2, he, hcc, show Value.bool _ ≠ Value.notImplemented ∧ Q _ s from ⟨(fun x => nomatch x), h'⟩⟩ (by omega)
    · exact richCompare_meets_room (op := .LtE) ⟨_, ho, rfl⟩ ⟨_, ho2, rfl⟩ PySem.F.slot_list_le PySem.F.entry_list_le (PySem.F.args_list_le_2 _ _) (list_ltAt (.inr ⟨rfl, rfl⟩) a b vs.toArray ws.toArray n n2 dd dd2 sl sl2 (atB L.eq xs ys) (atB (L.cmp .LtE) xs ys))
        ⟨ho, ho2, he, hcc, show Value.bool _ ≠ Value.notImplemented ∧ Q _ s from ⟨(fun x => nomatch x), h'⟩⟩ (by omega)
theorem LvOk.tuple (K : LvOk L) : LvOk L.tuple where
  keeps := by
    rintro h h' v xs ⟨a, vs, rfl, hl, hi⟩ k
    exact ⟨a, vs, rfl, isTuple_keeps hl k, hi.mono fun _ _ r => K.keeps r k⟩
  det := by
    rintro h v xs ys ⟨a, vs, rfl, hl, hi⟩ ⟨a', vs', e, hl', hi'⟩
    injection e with e
    subst e
    have := isTuple_det hl hl'
    obtain rfl : vs = vs' := by simpa using this
    exact items_det K hi hi'
  eqAt := by
    rintro A s v v' xs ys ⟨a, vs, rfl, hl, hi⟩ ⟨b, ws, rfl, hb, hj⟩ hu
    have hu' : A.units + (L.dep + 2) < cLine := hu
    by_cases hab : a = b
    · subst hab
      have := isTuple_det hl hb
      obtain rfl : vs = ws := by simpa using this
      have e : eqL L.eq xs ys = true := items_det K hi hj
      show EqAt A s _ _ (eqL L.eq xs ys)
      rw [e]
      exact EqAt.same _
    · refine EqAt.of_refs hab ?_
      show RcAt A s _ _ (eqL L.eq xs ys)
      have r := RcAt.tuples hl hb (by omega) (items_eq (A := A.in1) K hi hj (by show A.units + 1 + L.dep < cLine; omega))
      have e1 : vs.toArray.size = xs.length := by simp [hi.len]
      have e2 : ws.toArray.size = ys.length := by simp [hj.len]
      rw [e1, e2] at r
      by_cases hz : xs.length = ys.length
      · rw [← hz, Nat.min_self, all_eqL L.eq xs ys hz, beq_self_eq_true, Bool.and_true] at r
        exact r
      · rw [eqL_len _ _ _ hz]
        rw [show (xs.length == ys.length) = false by simp [hz], Bool.and_false] at r
        exact r
  opAt := by
    rintro op A s v v' xs ys hop ⟨a, vs, rfl, hl, hi⟩ ⟨b, ws, rfl, hb, hj⟩ hu hok prog w E Q h
    have hu' : A.units + (L.dep + 2) < cLine := hu
    obtain ⟨⟨cls, dd, data, sl⟩, ho, hc, n, hd⟩ := id hl
    obtain ⟨⟨cls2, dd2, data2, sl2⟩, ho2, hc2, n2, hd2⟩ := id hb
    simp only at hc hd hc2 hd2
    subst hc hd hc2 hd2
    have he := items_eq (A := A.in1) K hi hj (by show A.units + 1 + L.dep < cLine; omega)
    have hcc := items_op (A := A.in1) K hop hi hj (by show A.units + 1 + L.dep < cLine; omega) hok
    have ans := scan_lex L.eq (L.cmp op) hop xs ys
    rw [← hi.len, ← hj.len] at ans
    have h' : Q (.bool (scan (atB L.eq xs ys) (atB (L.cmp op) xs ys) (szB op vs.toArray.size ws.toArray.size) 0 (min vs.toArray.size ws.toArray.size))) s := by
      simp only [List.size_toArray]
      rw [ans]; exact h
    have hop' := hop
    rcases hop with rfl | rfl
    · exact richCompare_meets_room (op := .Lt) ⟨_, ho, rfl⟩ ⟨_, ho2, rfl⟩ PySem.F.slot_tuple_lt PySem.F.entry_tuple_lt (PySem.F.args_tuple_lt_2 _ _) (tuple_ltAt (.inl rfl) a b vs.toArray ws.toArray n n2 dd dd2 sl sl2 (atB L.eq xs ys) (atB (L.cmp .Lt) xs ys))
        ⟨ho, ho2, he, hcc, show Value.bool _ ≠ Value.notImplemented ∧ Q _ s from ⟨(fun x => nomatch x), h'⟩⟩ (by omega)
    · exact richCompare_meets_room (op := .LtE) ⟨_, ho, rfl⟩ ⟨_, ho2, rfl⟩ PySem.F.slot_tuple_le PySem.F.entry_tuple_le (PySem.F.args_tuple_le_2 _ _) (tuple_ltAt (.inr rfl) a b vs.toArray ws.toArray n n2 dd dd2 sl sl2 (atB L.eq xs ys) (atB (L.cmp .LtE) xs ys))
        ⟨ho, ho2, he, hcc, show Value.bool _ ≠ Value.notImplemented ∧ Q _ s from ⟨(fun x => nomatch x), h'⟩⟩ (by omega)

/-- the items: numbers, and the one text -/
noncomputable def Lv.zero : Lv CvI where
  rd _ v x := x.is v
  eq x y := match x, y with | .num a, .num b => a == b | .bee, .bee => true | _, _ => false
  cmp op x y := match x, y with | .num a, .num b => if isLe op then decide (a ≤ b) else decide (a < b) | _, _ => true
  ok x y := match x, y with | .num _, .num _ => true | _, _ => false
  dep := 0
theorem LvOk.zero : LvOk Lv.zero where
  keeps := fun r _ => r
  det := by
    intro h v x y hx hy
    cases x <;> cases y <;> (obtain ⟨u, rfl⟩ := hx; obtain ⟨u', e⟩ := hy; cases e) <;> simp [Lv.zero]
  eqAt := by
    intro A s v v' x y hx hy _
    cases x <;> cases y <;> obtain ⟨u, rfl⟩ := hx <;> obtain ⟨u', rfl⟩ := hy
    · exact EqAt.int_int _ _ _ _
    · exact EqAt.int_str _ _ _ _
    · exact EqAt.str_int _ _ _ _
    · have := EqAt.str_str (A := A) (s := s) "b" u "b" u'
      rwa [beq_self_eq_true] at this
  opAt := by
    intro op A s v v' x y hop hx hy _ hok
    cases x <;> cases y <;> obtain ⟨u, rfl⟩ := hx <;> obtain ⟨u', rfl⟩ := hy <;> try (cases hok; done)
    rcases hop with rfl | rfl
    · intro prog w E Q h; exact lt_int (E := E) h
    · intro prog w E Q h; exact le_int (E := E) h
end
end Lv

section Key
open TI
/-- a key function: of a text it tells a list of items -/
noncomputable def KeyFn (prog : Program) (w : World) (mg mb : Str → Option Value) (f : Addr) (P : Str → List CvI → Prop) : Prop :=
  ∀ {A : Around} {E : Value → Shared → Prop} {s : Shared} {hb : Heap} {l : List Env} {frs : List (Addr × Obj)} {t : Str} {tx : Tok} {ds : List CvI} {Q : Value → Shared → Prop},
    Rt A hb s.heap l frs → Gr w mg mb hb → A.depth + 20 < recursionLimit → A.units + 200 < cLine → A.handled = none → P t ds →
    (∀ u h' tk', Ret hb frs h' → Lv.zero.list.rd h' (.ref u) ds → Q (.ref u) { s with heap := h', toks := tk' }) → wpC (model prog w) A (call (.ref f) [.str t tx] []) Q E s

/-- the key function, called out of a frame -/
theorem KeyFn.out {prog : Program} {w : World} {mg mb : Str → Option Value} {f : Addr} {P : Str → List CvI → Prop} (KF : KeyFn prog w mg mb f P) {A : Around} {E : Value → Shared → Prop} {s : Shared} {hb : Heap} {l : List Env} {frs new : List (Addr × Obj)} {t : Str} {tx : Tok} {ds : List CvI} {Q : Value → Shared → Prop}
    {L a : Addr} {m : Str → Option Value} {name : Str} {scope : Scope} {cd : Value} (hfr : A.frames = some l) (Fs : Frs l frs) (F : Fr hb L s.heap m) (N : News hb L s.heap (new ++ frs)) (hap : ∀ p ∈ new, p.1 ∉ L :: frs.map (·.1)) (G : Gr w mg mb hb)
    (hroom : A.depth + 25 < recursionLimit) (hu : A.units + 210 < cLine) (hA : A.handled = none) (hP : P t ds)
    (h : ∀ u h' tk' frs', SameUp frs frs' → Fr hb L h' m → News hb L h' (new ++ frs') → Lv.zero.list.rd h' (.ref u) ds → Q (.ref u) { s with heap := h', toks := tk' }) (hk : scope.kind = .function) :
    wpC (model prog w) (A.deeper (envOf name scope L a cd)) (call (.ref f) [.str t tx] []) Q E s := by
  obtain ⟨oL, R₄, hL₄⟩ := Rt.out (name := name) (scope := scope) (a := a) (cd := cd) hfr Fs F N hk
  refine KF R₄ (G.keeps (base_keeps F N)) ?_ ?_ hA hP fun u h₅ tk₅ ret₅ rd₅ => ?_
  · show A.depth + 1 + 20 < _; omega
  · show A.units + 3 + 200 < _; omega
  obtain ⟨frs₅, SU₅, F₅, N₅⟩ := ret₅.back F N hap hL₄
  exact h u h₅ tk₅ frs₅ SU₅ F₅ N₅ rd₅

noncomputable def BkI (s : Shared) (hb : Heap) (L : Addr) (frs : List (Addr × Obj)) (l : Addr) (xv : Value) (f : Addr) (c len : Nat) (n : Nat) (s' : Shared) : Prop :=
  ∃ (h : Heap) (tk : Nat) (m : Str → Option Value) (frs' : List (Addr × Obj)) (lo hi : Nat) (tl th : Tok), s' = { s with heap := h, toks := tk } ∧ SameUp frs frs' ∧ Fr hb L h m ∧ News hb L h frs' ∧
    m "a" = some (.ref l) ∧ m "x" = some xv ∧ m "lo" = some (.int lo tl) ∧ m "hi" = some (.int hi th) ∧ m "key" = some (.ref f) ∧ n = hi - lo ∧ lo ≤ c ∧ c ≤ hi ∧ hi ≤ len
theorem rd_of {h : Heap} {u : Addr} {vs : List Value} {ds : List CvI} (hl : h.IsList u vs.toArray) (hv : CvAre vs ds) : Lv.zero.list.rd h (.ref u) ds := ⟨u, vs, rfl, hl, hv⟩

theorem bl_key {prog : Program} {w : World} {A : Around} {E : Value → Shared → Prop} {s : Shared} {mg mb : Str → Option Value} {Q : Value → Shared → Prop} {l f : Addr} {vs : List Value} {xv : Value} {xs : List CvI} {c : Nat} {hb : Heap} {le : List Env} {frs : List (Addr × Obj)} {P : Str → List CvI → Prop}
    {oc : Value} {od : Option Addr} {fd : FuncData} {osl : Array (Option Value)}
    (KF : KeyFn prog w mg mb f P) (hf : (hd.heap_39 w.params).lookup f = some ⟨oc, od, .func fd, osl⟩)
    (R : Rt A hb s.heap le frs) (G : Gr w mg mb hb) (hroom : A.depth + 30 < recursionLimit) (hu : A.units + 300 < cLine) (hA : A.handled = none)
    (hl : hb.IsList l vs.toArray) (hx : Lv.zero.list.rd hb xv xs) (hz : vs.length ≤ 1000) (hc : c ≤ vs.length)
    (hp : ∀ i, i < vs.length → ∃ t u d, vs[i]? = some (.str t u) ∧ P t d ∧ Lv.zero.list.ok d xs = true ∧ (Lv.zero.list.cmp .Lt d xs = true ↔ i < c))
    (h : ∀ u h' tk', Ret hb frs h' → Q (.int c u) { s with heap := h', toks := tk' }) :
    wpC (model prog w) A (call (.ref 78) [.ref l, xv] [("key", .ref f)]) Q E s := by
  obtain ⟨X, T⟩ := id G
  refine' call_rt (binds := [("a", .ref l), ("x", xv), ("lo", .int 0 413), ("hi", .none), ("key", .ref f)]) R X T.nolimit (by omega) ?ho ?hc ?hbind ?hloc ?hco ?hgen ?hk ?hcell ?_
  walk_at "mine fn"
  case hbind =>
    refine' binds_d (T := 70) (X.keeps R.stays) ?b1 ?b3 ?b4
    (case b1 => k_is)
    (case b3 => exact rfl)
    (case b4 => exact rfl)
  walk_at "mine enter"
  intro L h₁ tk₁ F N
  refine C_step ?_
  k_fold
  walk_at "mine steps"
  refine C_step ?_
  k_fold
  walk_at "mine steps"
  refine len_list (F.lst hl) ?_ ?_
  · simp; omega
  walk_at "mine steps"
  refine C_execs_cons (C_If (wpC_of ?_))
  k_fold
  walk_at "mine steps"
  (with_reducible rename Fr _ _ _ _ => F₁)
  (with_reducible rename News _ _ _ _ => N₁)
  refine C_execs_cons (While_C (BkI s hb L frs l xv f c vs.length) ?_ vs.length ?_)
  · rintro n s' ⟨h₂, tk₂, m₂, frs₂, lo, hi, tl, th, rfl, SU, F₂, N₂, ma, mx, ml, mh, mk, rfl, h1, h2, h3⟩
    clear F₁ N₁
    refine wpC_of ?_
    k_fold
    walk_at "mine steps"
    · refine C_step ?_
      k_fold
      walk_at "mine steps"
      (with_reducible rename Fr _ _ _ _ => F₄)
      (with_reducible rename News _ _ _ _ => N₄)
      have hlt : lo < hi := by omega
      have hmid : (((lo : Int) + hi).fdiv 2) = (((lo + hi) / 2 : Nat) : Int) := by
        rw [Int.fdiv_eq_ediv_of_nonneg _ (by omega)]; omega
      obtain ⟨t, ut, d, hv, hP, hok, hcm⟩ := hp ((lo + hi) / 2) (by omega)
      rw [hmid] at F₄
      refine C_execs_cons (C_If (C_isTrue_Compare1 (C_Call_fn (f := f) (o := ⟨oc, od, .func fd, osl⟩) rfl ?_)))
      k_fold
      walk_at "mine steps"
      refine C_args_cons (wpC_of ?_)
      walk_at "mine steps"
      refine item_list (F₄.lst hl) (by omega) (by omega) (by exact hv) ?_
      refine C_args_nil (C_kws_nil ⟨F₄.keep _ _ (X _ _ hf), ?_⟩)
      refine KF.out (new := []) R.stack (R.Fs.up SU) F₄ N₄ (fun _ q => nomatch q) G (by omega) (by omega) hA hP (fun u h₅ tk₅ frs₅ SU₅ F₅ N₅ rd₅ => ?_) rfl
      clear F₄ N₄
      refine wpC_of ?_
      k_fold
      walk_at "mine steps"
      have hx₅ : Lv.zero.list.rd h₅ xv xs := LvOk.zero.list.keeps hx F₅.keep
      refine LvOk.opAt (L := Lv.zero.list) LvOk.zero.list (.inl rfl) rd₅ hx₅ ?_ hok prog w _ _ ?_
      · show A.units + 3 + 2 < _; omega
      walk_at "mine steps"
      · (rename (_ = true) => hq)
        have hi' : (lo + hi) / 2 < c := hcm.mp hq
        refine C_step ?_
        k_fold
        walk_at "mine steps"
        (with_reducible rename Fr _ _ _ _ => F₆)
        (with_reducible rename News _ _ _ _ => N₆)
        refine C_execs_nil (C_execs_nil ⟨rfl, hi - ((lo + hi) / 2 + 1), by omega, _, _, _, frs₅, (lo + hi) / 2 + 1, hi, _, th, rfl, SU.trans SU₅, F₆, N₆, ma, mx, rfl, mh, mk, rfl, by omega, by omega, by omega⟩)
      · (rename (_ = false) => hq)
        have hi' : ¬ (lo + hi) / 2 < c := fun q => by rw [hcm.mpr q] at hq; cases hq
        refine C_step ?_
        k_fold
        walk_at "mine steps"
        (with_reducible rename Fr _ _ _ _ => F₆)
        (with_reducible rename News _ _ _ _ => N₆)
        refine C_execs_nil (C_execs_nil ⟨rfl, (lo + hi) / 2 - lo, by omega, _, _, _, frs₅, lo, (lo + hi) / 2, tl, _, rfl, SU.trans SU₅, F₆, N₆, ma, mx, ml, rfl, mk, rfl, by omega, by omega, by omega⟩)
    · have e : lo = c := by omega
      subst e
      refine C_execs_nil ?_
      refine C_step ?_
      k_fold
      walk_at "mine steps"
      exact h _ _ _ (Ret.leave (new := []) SU F₂ N₂)
  · exact ⟨_, _, _, frs, 0, vs.length, 413, _, rfl, SameUp.refl _, F₁, N₁, rfl, rfl, rfl, rfl, rfl, by omega, by omega, hc, Nat.le_refl _⟩
theorem br_key {prog : Program} {w : World} {A : Around} {E : Value → Shared → Prop} {s : Shared} {mg mb : Str → Option Value} {Q : Value → Shared → Prop} {l f : Addr} {vs : List Value} {xv : Value} {xs : List CvI} {c : Nat} {hb : Heap} {le : List Env} {frs : List (Addr × Obj)} {P : Str → List CvI → Prop}
    {oc : Value} {od : Option Addr} {fd : FuncData} {osl : Array (Option Value)}
    (KF : KeyFn prog w mg mb f P) (hf : (hd.heap_39 w.params).lookup f = some ⟨oc, od, .func fd, osl⟩)
    (R : Rt A hb s.heap le frs) (G : Gr w mg mb hb) (hroom : A.depth + 30 < recursionLimit) (hu : A.units + 300 < cLine) (hA : A.handled = none)
    (hl : hb.IsList l vs.toArray) (hx : Lv.zero.list.rd hb xv xs) (hz : vs.length ≤ 1000) (hc : c ≤ vs.length)
    (hp : ∀ i, i < vs.length → ∃ t u d, vs[i]? = some (.str t u) ∧ P t d ∧ Lv.zero.list.ok xs d = true ∧ (Lv.zero.list.cmp .Lt xs d = true ↔ c ≤ i))
    {pos : List Value} {tlo : Tok} (hargs : (pos = [.ref l, xv] ∧ tlo = 399) ∨ pos = [.ref l, xv, .int 0 tlo, .none])
    (h : ∀ u h' tk', Ret hb frs h' → Q (.int c u) { s with heap := h', toks := tk' }) :
    wpC (model prog w) A (call (.ref 69) pos [("key", .ref f)]) Q E s := by
  obtain ⟨X, T⟩ := id G
  refine' call_rt (binds := [("a", .ref l), ("x", xv), ("lo", .int 0 tlo), ("hi", .none), ("key", .ref f)]) R X T.nolimit (by omega) ?ho ?hc ?hbind ?hloc ?hco ?hgen ?hk ?hcell ?_
  walk_at "mine fn"
  case hbind =>
    rcases hargs with ⟨rfl, rfl⟩ | rfl
    · refine' binds_d (T := 61) (X.keeps R.stays) ?b1 ?b3 ?b4
      (case b1 => k_is)
      (case b3 => exact rfl)
      (case b4 => exact rfl)
    · refine' binds_d (T := 61) (X.keeps R.stays) ?b1 ?b3 ?b4
      (case b1 => k_is)
      (case b3 => exact rfl)
      (case b4 => exact rfl)
  walk_at "mine enter"
  intro L h₁ tk₁ F N
  refine C_step ?_
  k_fold
  walk_at "mine steps"
  refine C_step ?_
  k_fold
  walk_at "mine steps"
  refine len_list (F.lst hl) ?_ ?_
  · simp; omega
  walk_at "mine steps"
  refine C_execs_cons (C_If (wpC_of ?_))
  k_fold
  walk_at "mine steps"
  (with_reducible rename Fr _ _ _ _ => F₁)
  (with_reducible rename News _ _ _ _ => N₁)
  refine C_execs_cons (While_C (BkI s hb L frs l xv f c vs.length) ?_ vs.length ?_)
  · rintro n s' ⟨h₂, tk₂, m₂, frs₂, lo, hi, tl, th, rfl, SU, F₂, N₂, ma, mx, ml, mh, mk, rfl, h1, h2, h3⟩
    clear F₁ N₁
    refine wpC_of ?_
    k_fold
    walk_at "mine steps"
    · refine C_step ?_
      k_fold
      walk_at "mine steps"
      (with_reducible rename Fr _ _ _ _ => F₄)
      (with_reducible rename News _ _ _ _ => N₄)
      have hlt : lo < hi := by omega
      have hmid : (((lo : Int) + hi).fdiv 2) = (((lo + hi) / 2 : Nat) : Int) := by
        rw [Int.fdiv_eq_ediv_of_nonneg _ (by omega)]; omega
      obtain ⟨t, ut, d, hv, hP, hok, hcm⟩ := hp ((lo + hi) / 2) (by omega)
      rw [hmid] at F₄
      refine C_execs_cons (C_If (C_isTrue_Compare1 (wpC_of ?_)))
      k_fold
      walk_at "mine steps"
      refine C_Call_fn (f := f) (o := ⟨oc, od, .func fd, osl⟩) rfl ?_
      k_fold
      walk_at "mine steps"
      refine C_args_cons (wpC_of ?_)
      walk_at "mine steps"
      refine item_list (F₄.lst hl) (by omega) (by omega) (by exact hv) ?_
      refine C_args_nil (C_kws_nil ⟨F₄.keep _ _ (X _ _ hf), ?_⟩)
      refine KF.out (new := []) R.stack (R.Fs.up SU) F₄ N₄ (fun _ q => nomatch q) G (by omega) (by omega) hA hP (fun u h₅ tk₅ frs₅ SU₅ F₅ N₅ rd₅ => ?_) rfl
      clear F₄ N₄
      have hx₅ : Lv.zero.list.rd h₅ xv xs := LvOk.zero.list.keeps hx F₅.keep
      refine LvOk.opAt (L := Lv.zero.list) LvOk.zero.list (.inl rfl) hx₅ rd₅ ?_ hok prog w _ _ ?_
      · show A.units + 3 + 2 < _; omega
      walk_at "mine steps"
      · (rename (_ = true) => hq)
        have hi' : c ≤ (lo + hi) / 2 := hcm.mp hq
        refine C_step ?_
        k_fold
        walk_at "mine steps"
        (with_reducible rename Fr _ _ _ _ => F₆)
        (with_reducible rename News _ _ _ _ => N₆)
        refine C_execs_nil (C_execs_nil ⟨rfl, (lo + hi) / 2 - lo, by omega, _, _, _, frs₅, lo, (lo + hi) / 2, tl, _, rfl, SU.trans SU₅, F₆, N₆, ma, mx, ml, rfl, mk, rfl, by omega, by omega, by omega⟩)
      · (rename (_ = false) => hq)
        have hi' : ¬ c ≤ (lo + hi) / 2 := fun q => by rw [hcm.mpr q] at hq; cases hq
        refine C_step ?_
        k_fold
        walk_at "mine steps"
        (with_reducible rename Fr _ _ _ _ => F₆)
        (with_reducible rename News _ _ _ _ => N₆)
        refine C_execs_nil (C_execs_nil ⟨rfl, hi - ((lo + hi) / 2 + 1), by omega, _, _, _, frs₅, (lo + hi) / 2 + 1, hi, _, th, rfl, SU.trans SU₅, F₆, N₆, ma, mx, rfl, mh, mk, rfl, by omega, by omega, by omega⟩)
    · have e : lo = c := by omega
      subst e
      refine C_execs_nil ?_
      refine C_step ?_
      k_fold
      walk_at "mine steps"
      exact h _ _ _ (Ret.leave (new := []) SU F₂ N₂)
  · exact ⟨_, _, _, frs, 0, vs.length, tlo, _, rfl, SameUp.refl _, F₁, N₁, rfl, rfl, rfl, rfl, rfl, by omega, by omega, hc, Nat.le_refl _⟩
end Key

section Ins
open TI
theorem wpC_ofF {α : Type} {M : Model} {A : Around} {t : Sem α} {Q : α → Shared → Prop} {E : Value → Shared → Prop} {s : Shared} (h : wpAny M A t Q (fun _ _ => False) s) : wpC M A t Q E s := wpC_of (wpAny_mono h (fun _ _ q => q) fun _ _ q => q.elim)
theorem fn_gen {K : Frag} {f : Addr} {oc : Value} {od : Option Addr} {fd : FuncData} {osl : Array (Option Value)} (h : K.lookup f = some ⟨oc, od, .func fd, osl⟩) : ∃ oc od fd osl, K.lookup f = some ⟨oc, od, .func fd, osl⟩ := ⟨_, _, _, _, h⟩
theorem fn_44 (w : World) : ∃ oc od fd osl, (hd.heap_39 w.params).lookup 44 = some ⟨oc, od, .func fd, osl⟩ := by
  exact fn_gen (by k_is)
theorem fn_51 (w : World) : ∃ oc od fd osl, (hd.heap_39 w.params).lookup 51 = some ⟨oc, od, .func fd, osl⟩ := by
  exact fn_gen (by k_is)
theorem fn_60 (w : World) : ∃ oc od fd osl, (hd.heap_39 w.params).lookup 60 = some ⟨oc, od, .func fd, osl⟩ := by
  exact fn_gen (by k_is)
theorem fn_69 (w : World) : ∃ oc od fd osl, (hd.heap_39 w.params).lookup 69 = some ⟨oc, od, .func fd, osl⟩ := by
  exact fn_gen (by k_is)
theorem fn_78 (w : World) : ∃ oc od fd osl, (hd.heap_39 w.params).lookup 78 = some ⟨oc, od, .func fd, osl⟩ := by
  exact fn_gen (by k_is)
theorem fn_85 (w : World) : ∃ oc od fd osl, (hd.heap_39 w.params).lookup 85 = some ⟨oc, od, .func fd, osl⟩ := by
  exact fn_gen (by k_is)
theorem fn_92 (w : World) : ∃ oc od fd osl, (hd.heap_39 w.params).lookup 92 = some ⟨oc, od, .func fd, osl⟩ := by
  exact fn_gen (by k_is)
theorem insert_in {prog : Program} {w : World} {A : Around} {E : Value → Shared → Prop} {s : Shared} {h₀ : Heap} {L : Addr} {m : Str → Option Value} {D : Addr} {ys : List Value} {n c : Nat} {u : Tok} {y : Value} {own rest : List (Addr × Obj)} {Q : Value → Shared → Prop}
    (F : Fr h₀ L s.heap m) (N : News h₀ L s.heap (own ++ (D, W.listOf ys.toArray n) :: rest)) (hown : ∀ p ∈ own, p.1 ≠ D) (hap : ∀ p ∈ rest, p.1 ≠ D) (hc : c ≤ ys.length) {x : Int} (hx : x = (c : Int))
    (h : ∀ h' n', Fr h₀ L h' m → News h₀ L h' (own ++ (D, W.listOf (ys.take c ++ y :: ys.drop c).toArray n') :: rest) → Q .none { s with heap := h' })
    (hsz : ys.length ≤ 1000) :
    wpAny (model prog w) A (call (.builtin "list.insert") [.ref D, .int x u, y]) Q E s := by
  have hm := N _ (List.mem_append_right own (List.Mem.head rest))
  have hf : ¬(!Builtin.List.listFitsIndex x) = true := by
    have : Builtin.List.listFitsIndex x = true := by
      show (decide _ && decide _) = true
      rw [Bool.and_eq_true, decide_eq_true_eq, decide_eq_true_eq]
      constructor <;> omega
    rw [this]; decide
  have hs1 : ys.toArray.size ≤ sizeLine := by rw [sizeLine_eq, List.size_toArray]; omega
  refine call_meets PySem.F.slot_list_insert ⟨_, hm.1, rfl⟩ PySem.F.entry_list_insert (PySem.F.args_list_insert_3 _ _ _) (PySem.AutoSeq1.list_insert_list_int_val_1 D ys.toArray n x u y hf hs1) ⟨hm.1, h _ _ (F.change (Heap.SameBut.update ..) hm.2.1 hm.2.2) (W.kl_turn _ N hown hap ?_ ?_)⟩
  · have e : (if x < 0 then (x + (ys.toArray.size : Int)).toNat else min x.toNat ys.toArray.size) = c := by
      rw [if_neg (by omega), List.size_toArray, hx, Int.toNat_natCast]; omega
    show (ys.toArray.extract 0 (if x < 0 then (x + (ys.toArray.size : Int)).toNat else min x.toNat ys.toArray.size)).push y ++ ys.toArray.extract (if x < 0 then (x + (ys.toArray.size : Int)).toNat else min x.toNat ys.toArray.size) = _
    rw [e]
    exact W.kl_ins_eq ys c y
  · simp
    omega

/-- as call_rt, with more in the ledger -/
theorem call_rtx {prog : Program} {w : World} {A : Around} {E : Value → Shared → Prop} {s : Shared} {K : Frag} {Q : Value → Shared → Prop} {name qual : Str} {params : Arguments} {body : List Stmt} {scope : Scope} {dV kV doc pm cdv ct oc : Value} {an od : Option Addr}
    {osl : Array (Option Value)} {f : Addr} {pos : List Value} {kw : List (Str × Value)} {binds : List (Str × Value)} {hb : Heap} {l : List Env} {frs ext : List (Addr × Obj)}
    (R : Rt A hb s.heap l frs) (hext : ∀ p ∈ ext, s.heap.get? p.1 = some p.2 ∧ hb.get? p.1 = none) (X : K.In hb) (hlim : hb.NoLimit) (hroom : A.depth < recursionLimit)
    (ho : K.lookup f = some ⟨oc, od, .func (fnOf name qual params body scope dV kV doc pm an cdv ct), osl⟩) (hcd : codeIn K cdv qual = true)
    (hbind : BindsTo s (fnOf name qual params body scope dV kV doc pm an cdv ct) ⟨pos, kw⟩ binds) (hloc : ∀ y ∈ binds, scope.names.lookup y.1 = some .local)
    (hco : scope.isCoroutine = false) (hgen : scope.isGenerator = false) (hk : scope.kind = .function)
    (hcell : ∀ x ∈ scope.names, x.2 ≠ .cell)
    (h : ∀ L h₁ tk, Fr hb L h₁ (fun y => binds.reverse.lookup y) → News hb L h₁ (ext ++ frs) →
      wpC (model prog w) (A.deeper (envOf qual scope L f cdv)) (execs body (envOf qual scope L f cdv))
        (fun fl s' => Q (match fl with | .ret v => v | _ => .none) s') (fun _ _ => False) { s with heap := h₁, toks := tk }) :
    wpC (model prog w) A (call (.ref f) pos kw) Q E s := by
  refine call_ownC (X.keeps R.stays) (hlim.keeps R.stays) hroom ho hcd hbind hloc hco hgen hk hcell fun L h₁ tk F N => ?_
  refine h L h₁ tk ⟨F.ns, fun b o e => F.keep b o (R.stays b o e), Nat.le_trans R.size F.above⟩ fun p hp => ?_
  obtain ⟨h1, h2⟩ := (List.mem_append.mp hp).elim (hext p) (R.there p)
  exact ⟨F.keep _ _ h1, fun e => absurd (Heap.lt_size h1) (by rw [e]; exact Nat.not_lt.mpr F.above), h2⟩

theorem ins_str {prog : Program} {w : World} {A : Around} {E : Value → Shared → Prop} {s : Shared} {mg mb : Str → Option Value} {Q : Value → Shared → Prop} {l : Addr} {vs : List Value} {x : Str} {tx : Tok} {c n : Nat} {hb : Heap} {le : List Env} {frs : List (Addr × Obj)}
    (R : Rt A hb s.heap le frs) (G : Gr w mg mb hb) (hroom : A.depth + 30 < recursionLimit)
    (hl : s.heap.get? l = some (W.listOf vs.toArray n)) (hbl : hb.get? l = none) (hlf : l ∉ frs.map (·.1)) (hz : vs.length ≤ 900) (hc : c ≤ vs.length)
    (hp : ∀ i, i < vs.length → ∃ t u, vs[i]? = some (.str t u) ∧ (x.cps.toList < t.cps.toList ↔ c ≤ i))
    (h : ∀ h' tk' n', Ret hb frs h' → h'.get? l = some (W.listOf (vs.take c ++ .str x tx :: vs.drop c).toArray n') → Q .none { s with heap := h', toks := tk' }) :
    wpC (model prog w) A (call (.ref 60) [.ref l, .str x tx] []) Q E s := by
  obtain ⟨X, T⟩ := id G
  refine' call_rtx (ext := [(l, W.listOf vs.toArray n)]) (binds := [("a", .ref l), ("x", .str x tx), ("lo", .int 0 386), ("hi", .none), ("key", .none)]) R ?hext X T.nolimit (by omega) ?ho ?hc ?hbind ?hloc ?hco ?hgen ?hk ?hcell ?_
  case hext => intro p hp; rw [List.mem_singleton.mp hp]; exact ⟨hl, hbl⟩
  walk_at "mine fn"
  case hbind =>
    refine' binds_kw (T := 52) (D := 53) (X.keeps R.stays) ?b1 ?b2 ?b3 ?b4 ?b5
    walk_at "mine kw"
  walk_at "mine enter"
  intro L h₁ tk₁ F N
  refine C_execs_cons (C_If (wpC_of ?_))
  k_fold
  walk_at "mine steps"
  obtain ⟨oc, od, fd, osl, h69⟩ := fn_69 w
  refine C_execs_cons (C_Assign_Name (C_Call_fn (f := 69) (o := ⟨oc, od, .func fd, osl⟩) rfl ?_))
  k_fold
  walk_at "mine steps"
  refine C_args_cons (wpC_of ?_)
  walk_at "mine steps"
  refine C_args_cons (wpC_of ?_)
  walk_at "mine steps"
  refine C_args_cons (wpC_of ?_)
  walk_at "mine steps"
  refine C_args_cons (wpC_of ?_)
  walk_at "mine steps"
  refine C_args_nil (C_kws_nil ⟨F.keep _ _ (X _ _ h69), ?_⟩)
  have G₁ : Gr w mg mb h₁ := G.keeps F.keep
  refine wpC_ofF (br_str G₁ ?_ ⟨_, (N _ List.mem_cons_self).1, rfl, _, rfl⟩ (by omega) hc hp (.inr rfl) fun u₂ h₂ tk₂ st₂ => ?_)
  · show A.depth + 1 + 10 < _; omega
  have F₂ : Fr hb L h₂ _ := ⟨F.ns.at' fun o e => st₂ _ o e, fun b o e => st₂ b o (F.keep b o e), F.above⟩
  have N₂ : News hb L h₂ ((l, W.listOf vs.toArray n) :: frs) := fun p hp => ⟨st₂ _ _ (N p hp).1, (N p hp).2⟩
  clear F N
  show wpAny _ _ _ _ _ _
  k_fold
  walk_at "mine steps"
  refine C_execs_nil (C_step ?_)
  k_fold
  walk_at "mine steps"
  (with_reducible rename Fr _ _ _ _ => F₃)
  (with_reducible rename News _ _ _ _ => N₃)
  refine insert_in (own := []) (c := c) F₃ N₃ (fun _ q => nomatch q) (fun p hp e => hlf (List.mem_map.mpr ⟨p, hp, e⟩)) hc rfl (fun h₄ n₄ F₄ N₄ => ?_) (by omega)
  refine C_execs_nil ?_
  exact h h₄ _ n₄ (Ret.leave (new := [_]) (SameUp.refl _) F₄ N₄) (N₄ _ List.mem_cons_self).1

theorem list_apart {hb h : Heap} {L u : Addr} {m : Str → Option Value} {vs : Array Value} {l : List Env} {frs new : List (Addr × Obj)} (Fs : Frs l frs) (F : Fr hb L h m) (N : News hb L h (new ++ frs)) (hu : h.IsList u vs) : u ∉ L :: frs.map (·.1) := fun hm => by
  obtain ⟨o, ho, _, n, hd⟩ := hu
  rcases List.mem_cons.mp hm with q | hm
  · obtain ⟨o', es, ep, ho', hd', _⟩ := F.ns
    rw [← q, ho] at ho'
    obtain rfl := Option.some.inj ho'
    rw [hd] at hd'; cases hd'
  · obtain ⟨p, hp, e⟩ := List.mem_map.mp hm
    obtain ⟨es, ep, hd'⟩ := Fs.dict p hp
    have h1 := (N p (tail_sub p hp)).1
    have e' : p.1 = u := e
    rw [e', ho] at h1
    rw [← Option.some.inj h1, hd] at hd'; cases hd'
theorem list_gone {hb h : Heap} {L u : Addr} {m : Str → Option Value} {vs : Array Value} {l : List Env} {frs new : List (Addr × Obj)} (Fs : Frs l frs) (F : Fr hb L h m) (N : News hb L h (new ++ frs)) (hu : h.IsList u vs) : (gone h (L :: frs.map (·.1))).IsList u vs := by
  have ha := list_apart Fs F N hu
  obtain ⟨o, ho, r⟩ := hu
  exact ⟨o, (gone_get ha).trans ho, r⟩
theorem rd_gone {hb h : Heap} {L : Addr} {m : Str → Option Value} {v : Value} {xs : List CvI} {l : List Env} {frs new : List (Addr × Obj)} (Fs : Frs l frs) (F : Fr hb L h m) (N : News hb L h (new ++ frs)) (hu : Lv.zero.list.rd h v xs) : Lv.zero.list.rd (gone h (L :: frs.map (·.1))) v xs := by
  obtain ⟨a, vs, rfl, hl, hi⟩ := hu
  exact ⟨a, vs, rfl, list_gone Fs F N hl, hi⟩

/-- bisect_right with a key, called out of a frame -/
theorem br_out {prog : Program} {w : World} {A : Around} {E : Value → Shared → Prop} {s : Shared} {mg mb : Str → Option Value} {Q : Value → Shared → Prop} {l f : Addr} {vs : List Value} {xv : Value} {xs : List CvI} {c : Nat} {hb : Heap} {le : List Env} {frs new : List (Addr × Obj)} {P : Str → List CvI → Prop}
    {oc : Value} {od : Option Addr} {fd : FuncData} {osl : Array (Option Value)} {L a : Addr} {m : Str → Option Value} {name : Str} {scope : Scope} {cd : Value}
    (KF : KeyFn prog w mg mb f P) (hf : (hd.heap_39 w.params).lookup f = some ⟨oc, od, .func fd, osl⟩)
    (hfr : A.frames = some le) (Fs : Frs le frs) (F : Fr hb L s.heap m) (N : News hb L s.heap (new ++ frs)) (hap : ∀ p ∈ new, p.1 ∉ L :: frs.map (·.1)) (G : Gr w mg mb hb) (hroom : A.depth + 40 < recursionLimit) (hu : A.units + 310 < cLine) (hA : A.handled = none)
    (hl : s.heap.IsList l vs.toArray) (hx : Lv.zero.list.rd s.heap xv xs) (hz : vs.length ≤ 1000) (hc : c ≤ vs.length)
    (hp : ∀ i, i < vs.length → ∃ t u d, vs[i]? = some (.str t u) ∧ P t d ∧ Lv.zero.list.ok xs d = true ∧ (Lv.zero.list.cmp .Lt xs d = true ↔ c ≤ i))
    {pos : List Value} {tlo : Tok} (hargs : (pos = [.ref l, xv] ∧ tlo = 399) ∨ pos = [.ref l, xv, .int 0 tlo, .none])
    (h : ∀ u h' tk' frs', SameUp frs frs' → Fr hb L h' m → News hb L h' (new ++ frs') → Q (.int c u) { s with heap := h', toks := tk' }) (hk : scope.kind = .function) :
    wpC (model prog w) (A.deeper (envOf name scope L a cd)) (call (.ref 69) pos [("key", .ref f)]) Q E s := by
  obtain ⟨oL, R₄, hL₄⟩ := Rt.out (name := name) (scope := scope) (a := a) (cd := cd) hfr Fs F N hk
  refine br_key KF hf R₄ (G.keeps (base_keeps F N)) ?_ ?_ hA (list_gone Fs F N hl) (rd_gone Fs F N hx) hz hc hp hargs fun u h₅ tk₅ ret₅ => ?_
  · show A.depth + 1 + 30 < _; omega
  · show A.units + 3 + 300 < _; omega
  obtain ⟨frs₅, SU₅, F₅, N₅⟩ := ret₅.back F N hap hL₄
  exact h u h₅ tk₅ frs₅ SU₅ F₅ N₅

theorem ins_key {prog : Program} {w : World} {A : Around} {E : Value → Shared → Prop} {s : Shared} {mg mb : Str → Option Value} {Q : Value → Shared → Prop} {l f : Addr} {vs : List Value} {x : Str} {tx : Tok} {xs : List CvI} {c n : Nat} {hb : Heap} {le : List Env} {frs : List (Addr × Obj)} {P : Str → List CvI → Prop}
    {oc : Value} {od : Option Addr} {fd : FuncData} {osl : Array (Option Value)}
    (KF : KeyFn prog w mg mb f P) (hf : (hd.heap_39 w.params).lookup f = some ⟨oc, od, .func fd, osl⟩)
    (R : Rt A hb s.heap le frs) (G : Gr w mg mb hb) (hroom : A.depth + 50 < recursionLimit) (hu : A.units + 400 < cLine) (hA : A.handled = none)
    (hl : s.heap.get? l = some (W.listOf vs.toArray n)) (hbl : hb.get? l = none) (hlf : l ∉ frs.map (·.1)) (hz : vs.length ≤ 900) (hc : c ≤ vs.length) (hP : P x xs)
    (hp : ∀ i, i < vs.length → ∃ t u d, vs[i]? = some (.str t u) ∧ P t d ∧ Lv.zero.list.ok xs d = true ∧ (Lv.zero.list.cmp .Lt xs d = true ↔ c ≤ i))
    (h : ∀ h' tk' n', Ret hb frs h' → h'.get? l = some (W.listOf (vs.take c ++ .str x tx :: vs.drop c).toArray n') → Q .none { s with heap := h', toks := tk' }) :
    wpC (model prog w) A (call (.ref 60) [.ref l, .str x tx] [("key", .ref f)]) Q E s := by
  obtain ⟨X, T⟩ := id G
  refine' call_rtx (ext := [(l, W.listOf vs.toArray n)]) (binds := [("a", .ref l), ("x", .str x tx), ("lo", .int 0 386), ("hi", .none), ("key", .ref f)]) R ?hext X T.nolimit (by omega) ?ho ?hc ?hbind ?hloc ?hco ?hgen ?hk ?hcell ?_
  case hext => intro p hp; rw [List.mem_singleton.mp hp]; exact ⟨hl, hbl⟩
  walk_at "mine fn"
  case hbind =>
    refine' binds_d (T := 52) (X.keeps R.stays) ?b1 ?b3 ?b4
    (case b1 => k_is)
    (case b3 => exact rfl)
    (case b4 => exact rfl)
  walk_at "mine enter"
  intro L h₁ tk₁ F N
  refine C_execs_cons (C_If (wpC_of ?_))
  k_fold
  walk_at "mine steps"
  obtain ⟨oc9, od9, fd9, osl9, h69⟩ := fn_69 w
  have hap : ∀ p ∈ [(l, W.listOf vs.toArray n)], p.1 ∉ L :: frs.map (·.1) := fun p hp hm => by
    rw [List.mem_singleton.mp hp] at hm
    rcases List.mem_cons.mp hm with q | hm
    · exact (N _ List.mem_cons_self).2.1 q
    · exact hlf hm
  refine C_execs_cons (C_Assign_Name (C_Call_fn (f := 69) (o := ⟨oc9, od9, .func fd9, osl9⟩) rfl ?_))
  k_fold
  walk_at "mine steps"
  refine C_args_cons (wpC_of ?_)
  walk_at "mine steps"
  refine C_args_cons (C_Call_fn (f := f) (o := ⟨oc, od, .func fd, osl⟩) rfl ?_)
  k_fold
  walk_at "mine steps"
  refine C_args_cons (wpC_of ?_)
  walk_at "mine steps"
  refine C_args_nil (C_kws_nil ⟨F.keep _ _ (X _ _ hf), ?_⟩)
  refine KF.out (new := [(l, W.listOf vs.toArray n)]) R.stack R.Fs F N hap G (by omega) (by omega) hA hP (fun u h₅ tk₅ frs₅ SU₅ F₅ N₅ rd₅ => ?_) rfl
  clear F N
  refine C_args_cons (wpC_of ?_)
  k_fold
  walk_at "mine steps"
  refine C_args_cons (wpC_of ?_)
  walk_at "mine steps"
  refine C_args_nil (C_kws_cons (wpC_of ?_))
  walk_at "mine steps"
  refine C_kws_nil ⟨F₅.keep _ _ (X _ _ h69), ?_⟩
  have hadr₅ : frs₅.map (·.1) = frs.map (·.1) := sameUp_adr SU₅
  refine br_out (new := [(l, W.listOf vs.toArray n)]) KF hf R.stack (R.Fs.up SU₅) F₅ N₅ (by rw [hadr₅]; exact hap) G (by omega) (by omega) hA ⟨_, (N₅ _ List.mem_cons_self).1, rfl, _, rfl⟩ rd₅ (by omega) hc hp (.inr rfl) (fun u₆ h₆ tk₆ frs₆ SU₆ F₆ N₆ => ?_) rfl
  have N₆' : News hb L h₆ ((l, W.listOf vs.toArray n) :: frs₆) := N₆
  clear F₅ N₅ N₆
  show wpAny _ _ _ _ _ _
  k_fold
  walk_at "mine steps"
  refine C_execs_nil (C_step ?_)
  k_fold
  walk_at "mine steps"
  (with_reducible rename Fr _ _ _ _ => F₃)
  (with_reducible rename News _ _ _ _ => N₃)
  refine insert_in (own := []) (c := c) F₃ N₃ (fun _ q => nomatch q) (fun p hp e => hlf (by
    have h1 : p.1 ∈ frs₆.map (·.1) := List.mem_map.mpr ⟨p, hp, rfl⟩
    rw [sameUp_adr SU₆, hadr₅, e] at h1
    exact h1)) hc rfl (fun h₄ n₄ F₄ N₄ => ?_) (by omega)
  refine C_execs_nil ?_
  exact h h₄ _ n₄ (Ret.leave (new := [_]) (SU₅.trans SU₆) F₄ N₄) (N₄ _ List.mem_cons_self).1
end Ins

section Sp1
theorem append_at_dot {c : Nat} : ∀ {a p b t : List Nat}, p ++ t = a ++ b → c ∉ a → c ∉ p → (b = [] ∨ b.head? = some c) → (t = [] ∨ t.head? = some c) → p = a ∧ t = b
  | [], [], b, t, h, _, _, _, _ => ⟨rfl, h⟩
  | [], x :: p, b, t, h, _, hp, hb, _ => by
    simp at h
    subst h
    rcases hb with hb | hb
    · simp at hb
    · simp at hb
      exact absurd (by simp [hb]) hp
  | x :: a, [], b, t, h, ha, _, _, ht => by
    simp at h
    subst h
    rcases ht with ht | ht
    · simp at ht
    · simp at ht
      exact absurd (by simp [ht]) ha
  | x :: a, y :: p, b, t, h, ha, hp, hb, ht => by
    simp only [List.cons_append, List.cons.injEq] at h
    obtain ⟨rfl, h⟩ := h
    obtain ⟨rfl, rfl⟩ := append_at_dot h (fun q => ha (List.mem_cons_of_mem _ q)) (fun q => hp (List.mem_cons_of_mem _ q)) hb ht
    exact ⟨rfl, rfl⟩
theorem join_cons (y p : Str) (q : List Str) : ∃ t : List Nat, (t = [] ∨ ∃ r, t = y.cps.toList ++ r) ∧ ∀ z : Str, (Str.join y (z :: q)).cps.toList = z.cps.toList ++ t := by
  cases q with
  | nil => exact ⟨[], .inl rfl, fun z => by simp [Str.join]⟩
  | cons p' q' =>
    refine ⟨y.cps.toList ++ (Str.join y (p' :: q')).cps.toList, .inr ⟨_, rfl⟩, fun z => ?_⟩
    show (z ++ y ++ Str.join y (p' :: q')).cps.toList = _
    show ((z.cps ++ y.cps) ++ (Str.join y (p' :: q')).cps).toList = _
    simp
theorem split_first {x : Str} {a b : List Nat} (hx : x.cps.toList = a ++ b) (ha : (46 : Nat) ∉ a) (hb : b = [] ∨ b.head? = some 46) :
    ∃ rest, Txt.split x ⟨#[46]⟩ = ⟨a.toArray⟩ :: rest ∧ ∀ z : Str, (Str.join ⟨#[46]⟩ (z :: rest)).cps.toList = z.cps.toList ++ b := by
  have hj := StrLaws.join_split x ⟨#[46]⟩
  have hf := StrLaws.split_free x 46
  cases hs : Txt.split x ⟨#[46]⟩ with
  | nil =>
    exfalso
    unfold Txt.split at hs
    split at hs
    · cases hs
    · split at hs
      · cases hs
      · unfold Builtin.Str.partsBetween at hs
        dsimp only at hs
        have := congrArg List.length hs
        simp at this
  | cons p q =>
    rw [hs] at hj hf
    obtain ⟨t, ht, hz⟩ := join_cons ⟨#[46]⟩ p q
    have h1 := hz p
    rw [hj, hx] at h1
    have hp : (46 : Nat) ∉ p.cps.toList := hf p List.mem_cons_self
    obtain ⟨h2, rfl⟩ := append_at_dot h1.symm ha hp hb (by rcases ht with rfl | ⟨r, rfl⟩ <;> simp)
    refine ⟨q, ?_, hz⟩
    congr 1
    cases p
    simp at h2 ⊢
    rw [← h2]
end Sp1

section Al
open TI
open PySem.NumText
theorem al_num {prog : Program} {w : World} {A : Around} {E : Value → Shared → Prop} {s : Shared} {mg mb : Str → Option Value} {Q : Value → Shared → Prop} {rel ver : Str} {t1 t2 t3 : Tok} {hb : Heap} {le : List Env} {frs : List (Addr × Obj)} {a b : List Nat} {n : Int}
    (R : Rt A hb s.heap le frs) (G : Gr w mg mb hb) (hroom : A.depth + 5 < recursionLimit) (hu : A.units + 100 < cLine) (hA : A.handled = none)
    (hge : ¬ rel.cps.toList < [53]) (hx : rel.cps.toList = a ++ b) (ha : (46 : Nat) ∉ a) (hb' : b = [] ∨ b.head? = some 46) (hn : _root_.PySem.intText? ⟨a.toArray⟩ = some n) (hn1 : 3 ≤ n) (hn2 : n ≤ 100000) (hn3 : (Str.ofString (toString (n - 3))).length ≤ 100 ∧ True) (hz : rel.length ≤ 600 ∧ True)
    (h : ∀ u h' tk' rn t1' t2', Ret hb frs h' → rn.cps.toList = (Str.ofString (toString (n - 3))).cps.toList ++ b → h'.IsTuple u #[.str "Solaris" t1', .str rn t2', .str ver t3] → hb.get? u = none → Q (.ref u) { s with heap := h', toks := tk' }) :
    wpC (model prog w) A (call (.ref 51) [.str "SunOS" t1, .str rel t2, .str ver t3] []) Q E s := by
  obtain ⟨X, T⟩ := id G
  refine' call_rt (binds := [("system", .str "SunOS" t1), ("release", .str rel t2), ("version", .str ver t3)]) R X T.nolimit (by omega) ?ho ?hc ?hbind ?hloc ?hco ?hgen ?hk ?hcell ?_
  walk_at "mine fn"
  case hbind => exact BindsTo.of_eq rfl
  walk_at "mine enter"
  intro L h₁ tk₁ F N
  refine C_execs_cons (C_If (wpC_of ?_))
  k_fold
  walk_at "mine steps"
  refine C_step ?_
  k_fold
  walk_at "mine steps"
  · exfalso
    (rename (_ < _) => hq)
    exact hge hq
  refine C_step ?_
  k_fold
  walk_at "mine steps"
  (rename (List.map _ _ = Txt.split _ _) => e)
  obtain ⟨rest, hs, hj⟩ := split_first hx ha hb'
  rw [show Txt.split rel "." = _ from hs] at e
  obtain ⟨ta, l, rfl, el⟩ := KSpl.cons_of e
  (with_reducible rename Fr _ _ _ _ => F₂)
  (with_reducible rename News _ _ _ _ => N₂)
  (rename StrsAre _ _ => hsa)
  (rename Heap.IsList _ _ _ => hil)
  (rename (∀ a ∈ List.map _ _, _ ≤ _) => hsl)
  clear hil e
  (rename Heap => h₂)
  obtain ⟨D, hD⟩ : ∃ D, D = h₁.objs.size := ⟨_, rfl⟩
  have F₃ : Fr hb L h₂ (fun y => if y = "l" then some (Value.ref D) else List.lookup y ([("system", Value.str "SunOS" t1), ("release", Value.str rel t2), ("version", Value.str ver t3)] : List (Str × Value)).reverse) := by rw [hD]; exact F₂
  have N₃ : News hb L h₂ ((D, W.listOf (.str ⟨a.toArray⟩ ta :: strValues l).toArray 0) :: frs) := by rw [hD]; exact N₂
  clear F₂ N₂
  refine C_execs_cons (C_If (wpC_of ?_))
  k_fold
  walk_at "mine steps"
  have hil : ∀ (its : List Value) nn, W.listOf its.toArray nn = ({ cls := .type "list", data := .seq its.toArray nn } : Obj) := fun _ _ => rfl
  have hlen : (Value.str ⟨a.toArray⟩ ta :: strValues l).toArray.size ≤ 1000 := by
    have hw := split_weight rel "." (by decide)
    rw [show Txt.split rel "." = _ from hs, ← el] at hw
    have h1 := hz.1
    have h2 : (strValues l).length = l.length := by rw [StrsAre.len_eq (strsAre_of_values l), List.length_map]
    simp only [List.size_toArray, List.length_cons, List.map_cons, List.sum_cons, List.length_map] at hw ⊢
    omega
  refine wpAny_truthy_list (items := (.str ⟨a.toArray⟩ ta :: strValues l).toArray) ⟨_, (N₃ _ List.mem_cons_self).1, rfl, _, rfl⟩ (by omega) ?_
  k_unfold
  rw [if_pos (by simp)]
  refine C_execs_cons (C_Try (C_execs_cons (C_Assign_Name (C_Call_type (T := "int") ?_))))
  k_fold
  walk_at "mine steps"
  refine C_args_cons (wpC_of ?_)
  walk_at "mine steps"
  refine C_args_nil (wpC_of (KIN.call_text hn ?_ ?_))
  · have := hsl ⟨a.toArray⟩ List.mem_cons_self
    have := hz.1
    omega
  k_fold
  walk_at "mine steps"
  refine C_execs_nil (C_step ?_)
  k_fold
  walk_at "mine steps"
  refine C_step ?_
  k_fold
  walk_at "mine steps"
  (with_reducible rename Fr _ _ _ _ => F₄)
  (with_reducible rename News _ _ _ _ => N₄)
  have hDf : ∀ p ∈ frs, p.1 ≠ D := fun p hp q => new_apart (new := [(D, W.listOf (Value.str ⟨a.toArray⟩ ta :: strValues l).toArray 0)]) R.Fs N₄ rfl List.mem_cons_self (List.mem_cons_of_mem _ (List.mem_map.mpr ⟨p, hp, q⟩))
  refine W.ki_set F₄ N₄ (by omega) (by omega) rfl (.head hDf) fun h₅ F₅ N₅ => ?_
  k_unfold
  clear F₄ N₄
  refine C_step ?_
  k_fold
  walk_at "mine steps"
  have hw := split_weight rel "." (by decide)
  rw [show Txt.split rel "." = _ from hs] at hw
  refine join_list (ys := Str.ofString (toString (n - 3)) :: rest) ⟨_, (N₅ _ List.mem_cons_self).1, rfl, _, rfl⟩ ?_ ?_ fun t₆ k₆ => ?_
  · have hr := strsAre_of_values l
    rw [el] at hr
    exact .cons _ _ hr
  · have h1 := hz.1
    have h2 := hn3.1
    have h3 : ("." : Str).length = 1 := by decide
    simp only [List.map_cons, List.sum_cons, List.length_cons] at hw ⊢
    rw [h3]
    omega
  have hnew : (Txt.join "." (Str.ofString (toString (n - 3)) :: rest)).cps.toList = (Str.ofString (toString (n - 3))).cps.toList ++ b := by
    show (Builtin.Str.glued _ _).cps.toList = _
    rw [StrLaws.glued_eq_join]
    exact hj _
  generalize Txt.join "." (Str.ofString (toString (n - 3)) :: rest) = rn at hnew
  walk_at "mine steps"
  refine C_execs_nil (C_execs_nil ?_)
  refine C_step ?_
  k_fold
  walk_at "mine steps"
  all_goals
    refine C_execs_nil ?_
    refine C_step ?_
    k_fold
    walk_at "mine steps"
    (with_reducible rename Fr _ _ _ _ => F₇)
    (with_reducible rename News _ _ _ _ => N₇)
    exact h _ _ _ rn _ _ (Ret.leave (new := [_, _]) (SameUp.refl _) F₇ N₇) hnew ⟨_, (N₇ _ List.mem_cons_self).1, rfl, _, rfl⟩ (N₇ _ List.mem_cons_self).2.2
theorem al_odd {prog : Program} {w : World} {A : Around} {E : Value → Shared → Prop} {s : Shared} {mg mb : Str → Option Value} {Q : Value → Shared → Prop} {rel ver : Str} {t1 t2 t3 : Tok} {hb : Heap} {le : List Env} {frs : List (Addr × Obj)} {a b : List Nat}
    (R : Rt A hb s.heap le frs) (G : Gr w mg mb hb) (hroom : A.depth + 5 < recursionLimit) (hu : A.units + 100 < cLine) (hA : A.handled = none)
    (hge : ¬ rel.cps.toList < [53]) (hx : rel.cps.toList = a ++ b) (ha : (46 : Nat) ∉ a) (hb' : b = [] ∨ b.head? = some 46) (hdig : digits? 10 (core (numSeenOf ⟨a.toArray⟩)) = none) (hrep : (reprText ⟨a.toArray⟩).length ≤ 10000) (hz : rel.length ≤ 300 ∧ True)
    (h : ∀ u h' tk' t1', Ret hb frs h' → h'.IsTuple u #[.str "Solaris" t1', .str rel t2, .str ver t3] → hb.get? u = none → Q (.ref u) { s with heap := h', toks := tk' }) :
    wpC (model prog w) A (call (.ref 51) [.str "SunOS" t1, .str rel t2, .str ver t3] []) Q E s := by
  obtain ⟨X, T⟩ := id G
  refine' call_rt (binds := [("system", .str "SunOS" t1), ("release", .str rel t2), ("version", .str ver t3)]) R X T.nolimit (by omega) ?ho ?hc ?hbind ?hloc ?hco ?hgen ?hk ?hcell ?_
  walk_at "mine fn"
  case hbind => exact BindsTo.of_eq rfl
  walk_at "mine enter"
  intro L h₁ tk₁ F N
  refine C_execs_cons (C_If (wpC_of ?_))
  k_fold
  walk_at "mine steps"
  refine C_step ?_
  k_fold
  walk_at "mine steps"
  · exfalso
    (rename (_ < _) => hq)
    exact hge hq
  refine C_step ?_
  k_fold
  walk_at "mine steps"
  (rename (List.map _ _ = Txt.split _ _) => e)
  obtain ⟨rest, hs, hj⟩ := split_first hx ha hb'
  rw [show Txt.split rel "." = _ from hs] at e
  obtain ⟨ta, l, rfl, el⟩ := KSpl.cons_of e
  (with_reducible rename Fr _ _ _ _ => F₂)
  (with_reducible rename News _ _ _ _ => N₂)
  (rename StrsAre _ _ => hsa)
  (rename Heap.IsList _ _ _ => hil)
  (rename (∀ a ∈ List.map _ _, _ ≤ _) => hsl)
  clear hil e
  (rename Heap => h₂)
  obtain ⟨D, hD⟩ : ∃ D, D = h₁.objs.size := ⟨_, rfl⟩
  have F₃ : Fr hb L h₂ (fun y => if y = "l" then some (Value.ref D) else List.lookup y ([("system", Value.str "SunOS" t1), ("release", Value.str rel t2), ("version", Value.str ver t3)] : List (Str × Value)).reverse) := by rw [hD]; exact F₂
  have N₃ : News hb L h₂ ((D, W.listOf (.str ⟨a.toArray⟩ ta :: strValues l).toArray 0) :: frs) := by rw [hD]; exact N₂
  clear F₂ N₂
  refine C_execs_cons (C_If (wpC_of ?_))
  k_fold
  walk_at "mine steps"
  have hil : ∀ (its : List Value) nn, W.listOf its.toArray nn = ({ cls := .type "list", data := .seq its.toArray nn } : Obj) := fun _ _ => rfl
  have hlen : (Value.str ⟨a.toArray⟩ ta :: strValues l).toArray.size ≤ 1000 := by
    have hw := split_weight rel "." (by decide)
    rw [show Txt.split rel "." = _ from hs, ← el] at hw
    have h1 := hz.1
    have h2 : (strValues l).length = l.length := by rw [StrsAre.len_eq (strsAre_of_values l), List.length_map]
    simp only [List.size_toArray, List.length_cons, List.map_cons, List.sum_cons, List.length_map] at hw ⊢
    omega
  refine wpAny_truthy_list (items := (.str ⟨a.toArray⟩ ta :: strValues l).toArray) ⟨_, (N₃ _ List.mem_cons_self).1, rfl, _, rfl⟩ (by omega) ?_
  k_unfold
  rw [if_pos (by simp)]
  refine C_execs_cons (C_Try (C_execs_cons (C_Assign_Name (C_Call_type (T := "int") ?_))))
  k_fold
  walk_at "mine steps"
  refine C_args_cons (wpC_of ?_)
  walk_at "mine steps"
  refine C_args_nil (int1_refuses hA hdig ?_ hrep fun h₅ tk₅ e₅ hx₅ => ?_)
  · have := hsl ⟨a.toArray⟩ List.mem_cons_self
    have := hz.1
    omega
  refine caught_VE (new := [(D, W.listOf (Value.str ⟨a.toArray⟩ ta :: strValues l).toArray 0)]) (frs := frs) R.stack R.Fs hx₅ F₃ N₃ ?_ G (fun h₆ frs₆ SU₆ Fs₆ F₆ N₆ => ?_) rfl rfl
  · intro p hp
    exact new_apart (new := [(D, W.listOf (Value.str ⟨a.toArray⟩ ta :: strValues l).toArray 0)]) R.Fs N₃ rfl hp
  have N₆' : News hb L h₆ ((D, W.listOf (Value.str ⟨a.toArray⟩ ta :: strValues l).toArray 0) :: frs₆) := N₆
  clear F₃ N₃ N₆
  show wpAny _ _ _ _ _ _
  k_fold
  walk_at "mine steps"
  refine C_execs_nil ?_
  refine C_step ?_
  k_fold
  walk_at "mine steps"
  all_goals
    refine C_execs_nil ?_
    refine C_step ?_
    k_fold
    walk_at "mine steps"
    (with_reducible rename Fr _ _ _ _ => F₇)
    (with_reducible rename News _ _ _ _ => N₇)
    exact h _ _ _ _ (Ret.leave (new := [_, _]) SU₆ F₇ N₇) ⟨_, (N₇ _ List.mem_cons_self).1, rfl, _, rfl⟩ (N₇ _ List.mem_cons_self).2.2
theorem al_low {prog : Program} {w : World} {A : Around} {E : Value → Shared → Prop} {s : Shared} {mg mb : Str → Option Value} {Q : Value → Shared → Prop} {rel ver : Str} {t1 t2 t3 : Tok} {hb : Heap} {le : List Env} {frs : List (Addr × Obj)}
    (R : Rt A hb s.heap le frs) (G : Gr w mg mb hb) (hroom : A.depth + 5 < recursionLimit) (hu : A.units + 100 < cLine) (hA : A.handled = none)
    (hge : rel.cps.toList < [53])
    (h : ∀ u h' tk', Ret hb frs h' → h'.IsTuple u #[.str "SunOS" t1, .str rel t2, .str ver t3] → hb.get? u = none → Q (.ref u) { s with heap := h', toks := tk' }) :
    wpC (model prog w) A (call (.ref 51) [.str "SunOS" t1, .str rel t2, .str ver t3] []) Q E s := by
  obtain ⟨X, T⟩ := id G
  refine' call_rt (binds := [("system", .str "SunOS" t1), ("release", .str rel t2), ("version", .str ver t3)]) R X T.nolimit (by omega) ?ho ?hc ?hbind ?hloc ?hco ?hgen ?hk ?hcell ?_
  walk_at "mine fn"
  case hbind => exact BindsTo.of_eq rfl
  walk_at "mine enter"
  intro L h₁ tk₁ F N
  refine C_execs_cons (C_If (wpC_of ?_))
  k_fold
  walk_at "mine steps"
  refine C_step ?_
  k_fold
  walk_at "mine steps"
  · (with_reducible rename Fr _ _ _ _ => F₇)
    (with_reducible rename News _ _ _ _ => N₇)
    exact h _ _ _ (Ret.leave (new := [_]) (SameUp.refl _) F₇ N₇) ⟨_, (N₇ _ List.mem_cons_self).1, rfl, _, rfl⟩ (N₇ _ List.mem_cons_self).2.2
  · exfalso
    (rename (¬ _ < _) => hq)
    exact hq hge
theorem al_sol {prog : Program} {w : World} {A : Around} {E : Value → Shared → Prop} {s : Shared} {mg mb : Str → Option Value} {Q : Value → Shared → Prop} {rel ver : Str} {t1 t2 t3 : Tok} {hb : Heap} {le : List Env} {frs : List (Addr × Obj)}
    (R : Rt A hb s.heap le frs) (G : Gr w mg mb hb) (hroom : A.depth + 5 < recursionLimit) (hu : A.units + 100 < cLine) (hA : A.handled = none)
    (h : ∀ u h' tk', Ret hb frs h' → h'.IsTuple u #[.str "Solaris" t1, .str rel t2, .str ver t3] → hb.get? u = none → Q (.ref u) { s with heap := h', toks := tk' }) :
    wpC (model prog w) A (call (.ref 51) [.str "Solaris" t1, .str rel t2, .str ver t3] []) Q E s := by
  obtain ⟨X, T⟩ := id G
  refine' call_rt (binds := [("system", .str "Solaris" t1), ("release", .str rel t2), ("version", .str ver t3)]) R X T.nolimit (by omega) ?ho ?hc ?hbind ?hloc ?hco ?hgen ?hk ?hcell ?_
  walk_at "mine fn"
  case hbind => exact BindsTo.of_eq rfl
  walk_at "mine enter"
  intro L h₁ tk₁ F N
  refine C_execs_cons (C_If (wpC_of ?_))
  k_fold
  walk_at "mine steps"
  refine C_step ?_
  k_fold
  walk_at "mine steps"
  refine C_execs_nil ?_
  refine C_step ?_
  k_fold
  walk_at "mine steps"
  (with_reducible rename Fr _ _ _ _ => F₇)
  (with_reducible rename News _ _ _ _ => N₇)
  exact h _ _ _ (Ret.leave (new := [_, _]) (SameUp.refl _) F₇ N₇) ⟨_, (N₇ _ List.mem_cons_self).1, rfl, _, rfl⟩ (N₇ _ List.mem_cons_self).2.2
end Al

section Tx
/-- the figures of a number -/
noncomputable def dg (n : Nat) : List Nat := (Nat.toDigits 10 n).map Char.toNat
noncomputable def bh : Nat → List Nat
  | 0 => []
  | 1 => [46, 48]
  | 2 => [46, 48, 57]
  | 3 => [46, 49, 48]
  | 4 => [46, 57, 46, 98]
  | 5 => [45, 57]
  | _ => [98]
noncomputable def fl : Nat → List CvI
  | 0 => []
  | 1 => [.num 100, .num 0]
  | 2 => [.num 100, .num 9]
  | 3 => [.num 100, .num 10]
  | 4 => [.num 100, .num 9, .num 30, .bee]
  | 5 => [.num 100, .num 9]
  | _ => [.num 30, .bee]
noncomputable def cvOf (n k : Nat) : List CvI := .num 100 :: .num n :: fl k
noncomputable def tkOf : Nat → List Tk
  | 0 => []
  | 1 => [.sep 46, .dig [48]]
  | 2 => [.sep 46, .dig [48, 57]]
  | 3 => [.sep 46, .dig [49, 48]]
  | 4 => [.sep 46, .dig [57], .sep 46]
  | 5 => [.sep 45, .dig [57]]
  | _ => []
noncomputable def lastOf : Nat → List Nat
  | 4 => [98]
  | 6 => [98]
  | _ => []
theorem dg_lt {n : Nat} (h : n < 10) : dg n = [48 + n] := by
  unfold dg
  rw [Nat.toDigits_of_lt_base h]
  have : ∀ n, n < 10 → [(Nat.digitChar n).toNat] = [48 + n] := by decide
  exact this n h
theorem dg_step {n : Nat} (h : 10 ≤ n) : dg n = dg (n / 10) ++ [48 + n % 10] := by
  unfold dg
  rw [Nat.toDigits_of_base_le (by decide) h, List.map_append]
  have : ∀ n, n < 10 → [(Nat.digitChar n).toNat] = [48 + n] := by decide
  rw [show List.map Char.toNat [Nat.digitChar (n % 10)] = [(Nat.digitChar (n % 10)).toNat] from rfl, this _ (Nat.mod_lt _ (by decide))]
theorem dg_len {n : Nat} (h : n < 10000) : (dg n).length ≤ 4 := by
  by_cases h1 : n < 10
  · rw [dg_lt h1]; simp
  rw [dg_step (by omega), List.length_append]
  by_cases h2 : n / 10 < 10
  · rw [dg_lt h2]; simp
  rw [dg_step (by omega), List.length_append]
  by_cases h3 : n / 10 / 10 < 10
  · rw [dg_lt h3]; simp
  rw [dg_step (by omega), List.length_append, dg_lt (by omega)]
  simp
theorem dg_dig (n : Nat) : ∀ c ∈ dg n, digB c = true := by
  induction n using Nat.strongRecOn with
  | _ n ih =>
    intro c hc
    by_cases h1 : n < 10
    · rw [dg_lt h1] at hc
      rw [List.mem_singleton.mp hc]
      unfold digB
      rw [Bool.and_eq_true, decide_eq_true_eq, decide_eq_true_eq]
      omega
    · rw [dg_step (by omega)] at hc
      rcases List.mem_append.mp hc with hc | hc
      · exact ih (n / 10) (by omega) c hc
      · rw [List.mem_singleton.mp hc]
        unfold digB
        rw [Bool.and_eq_true, decide_eq_true_eq, decide_eq_true_eq]
        omega
theorem dg_ne (n : Nat) : dg n ≠ [] := by
  by_cases h1 : n < 10
  · rw [dg_lt h1]; simp
  · rw [dg_step (by omega)]; simp
theorem dg_str (n : Nat) : (⟨(dg n).toArray⟩ : Str) = Str.ofString (toString ((n : Nat) : Int)) := by
  have h := KIN.signs_num n
  cases hx : Str.ofString (toString ((n : Nat) : Int)) with
  | mk cps =>
    rw [hx] at h
    congr 1
    apply Array.toList_inj.mp
    rw [h]
    rfl
theorem dg_reads {n : Nat} (h : n < 10000) : _root_.PySem.intText? ⟨(dg n).toArray⟩ = some ((n : Nat) : Int) := by
  rw [dg_str]
  exact KIN.num_reads (by omega) (by omega)
theorem dg_notin (n : Nat) : inS ⟨(dg n).toArray⟩ = false := by
  cases hc : inS ⟨(dg n).toArray⟩ with
  | false => rfl
  | true =>
    exfalso
    unfold inS at hc
    obtain ⟨i, hi, hs⟩ := (StrLaws.found_iff "._+-" ⟨(dg n).toArray⟩).mp hc
    unfold Builtin.Str.subAt at hs
    have he := eq_of_beq hs
    have hne := dg_ne n
    cases hd : dg n with
    | nil => exact hne hd
    | cons c r =>
      have hcd : digB c = true := dg_dig n c (by rw [hd]; exact List.mem_cons_self)
      rw [hd] at he
      have h0 := congrArg (fun x => x.toList.head?) he
      have hm : c ∈ ("._+-" : Str).cps.toList := by
        have h1 : c ∈ ((("._+-" : Str).cps.extract i (i + Str.length ⟨(c :: r).toArray⟩)).toList) := by rw [he]; simp
        rw [Array.toList_extract] at h1
        exact List.mem_of_mem_drop (List.mem_of_mem_take h1)
      have : ∀ c ∈ ("._+-" : Str).cps.toList, digB c = false := by decide
      rw [this c hm] at hcd
      cases hcd
noncomputable def outOf (n k : Nat) : List (List CvI) := [[], [.num 100, .num n]] ++ (match k with
  | 0 => [[]]
  | 1 => [[], [], [], [.num 100, .num 0], []]
  | 2 => [[], [], [], [.num 100, .num 9], []]
  | 3 => [[], [], [], [.num 100, .num 10], []]
  | 4 => [[], [], [], [.num 100, .num 9], [], [], [.num 30, .bee]]
  | 5 => [[], [], [], [.num 100, .num 9], []]
  | _ => [[.num 30, .bee]])
theorem out_flat (n k : Nat) : (outOf n k).flatten = cvOf n k := by
  match k with
  | 0 | 1 | 2 | 3 | 4 | 5 => rfl
  | k + 6 => rfl
theorem out_pc {n k : Nat} (h : n < 10000) (hk : k < 7) : All2 Pc (pieces (.dig (dg n) :: tkOf k) (lastOf k)) (outOf n k) := by
  have e : Pc ⟨#[]⟩ [] := .skip (by decide +kernel)
  have d : Pc ⟨(dg n).toArray⟩ [.num 100, .num n] := .num (dg_reads h) (by have := dg_len h; show (dg n).toArray.size ≤ 640; rw [List.size_toArray]; omega) (dg_notin n)
  have b : Pc ⟨#[98]⟩ [.num 30, .bee] := .bee
  have p1 : Pc ⟨#[46]⟩ [] := .skip (by decide +kernel)
  have p2 : Pc ⟨#[45]⟩ [] := .skip (by decide +kernel)
  have q0 : Pc ⟨#[48]⟩ [.num 100, .num 0] := .num (by decide +kernel) (by decide) (by decide +kernel)
  have q1 : Pc ⟨#[48, 57]⟩ [.num 100, .num 9] := .num (by decide +kernel) (by decide) (by decide +kernel)
  have q2 : Pc ⟨#[49, 48]⟩ [.num 100, .num 10] := .num (by decide +kernel) (by decide) (by decide +kernel)
  have q3 : Pc ⟨#[57]⟩ [.num 100, .num 9] := .num (by decide +kernel) (by decide) (by decide +kernel)
  match k, hk with
  | 0, _ => exact .cons e (.cons d (.cons e .nil))
  | 1, _ => exact .cons e (.cons d (.cons e (.cons p1 (.cons e (.cons q0 (.cons e .nil))))))
  | 2, _ => exact .cons e (.cons d (.cons e (.cons p1 (.cons e (.cons q1 (.cons e .nil))))))
  | 3, _ => exact .cons e (.cons d (.cons e (.cons p1 (.cons e (.cons q2 (.cons e .nil))))))
  | 4, _ => exact .cons e (.cons d (.cons e (.cons p1 (.cons e (.cons q3 (.cons e (.cons p1 (.cons b .nil))))))))
  | 5, _ => exact .cons e (.cons d (.cons e (.cons p2 (.cons e (.cons q3 (.cons e .nil))))))
  | 6, _ => exact .cons e (.cons d (.cons b .nil))
theorem out_ok {n k : Nat} (hk : k < 7) : OkT (.dig (dg n) :: tkOf k) (lastOf k) := by
  have q : ∀ k, k < 7 → (∀ c, (flat (tkOf k) ++ lastOf k).head? = some c → digB c = false) ∧ OkT (tkOf k) (lastOf k) := by
    intro k hk
    match k, hk with
    | 0, _ => exact ⟨fun c h => by simp [tkOf, lastOf, flat] at h, .inl rfl⟩
    | 1, _ => exact ⟨fun c h => by simp [tkOf, lastOf, flat, Tk.cs] at h; subst h; decide, by decide, by decide +kernel, by simp, by decide, fun c h => by simp [flat, lastOf] at h, .inl rfl⟩
    | 2, _ => exact ⟨fun c h => by simp [tkOf, lastOf, flat, Tk.cs] at h; subst h; decide, by decide, by decide +kernel, by simp, by decide, fun c h => by simp [flat, lastOf] at h, .inl rfl⟩
    | 3, _ => exact ⟨fun c h => by simp [tkOf, lastOf, flat, Tk.cs] at h; subst h; decide, by decide, by decide +kernel, by simp, by decide, fun c h => by simp [flat, lastOf] at h, .inl rfl⟩
    | 4, _ => exact ⟨fun c h => by simp [tkOf, lastOf, flat, Tk.cs] at h; subst h; decide, by decide, by decide +kernel, by simp, by decide, fun c h => by simp [flat, Tk.cs] at h; subst h; decide, by decide, by decide +kernel, .inr ⟨98, rfl, by decide, by decide +kernel⟩⟩
    | 5, _ => exact ⟨fun c h => by simp [tkOf, lastOf, flat, Tk.cs] at h; subst h; decide, by decide, by decide +kernel, by simp, by decide, fun c h => by simp [flat, lastOf] at h, .inl rfl⟩
    | 6, _ => exact ⟨fun c h => by simp [tkOf, lastOf, flat, Tk.cs] at h; subst h; decide, .inr ⟨98, rfl, by decide, by decide +kernel⟩⟩
  exact ⟨dg_ne n, dg_dig n, (q k hk).1, (q k hk).2⟩
/-- the text of number n with what stands behind it -/
noncomputable def IsT (t : Str) (n k : Nat) : Prop := t.cps.toList = dg n ++ bh k
noncomputable def P44 (t : Str) (ds : List CvI) : Prop := ∃ n k, n < 10000 ∧ k < 7 ∧ IsT t n k ∧ ds = cvOf n k
theorem cv_T {prog : Program} {w : World} {A : Around} {E : Value → Shared → Prop} {s : Shared} {mg mb : Str → Option Value} {Q : Value → Shared → Prop} {t : Str} {tx : Tok} {hb : Heap} {l : List Env} {frs : List (Addr × Obj)} {n k : Nat}
    (R : Rt A hb s.heap l frs) (G : Gr w mg mb hb) (hroom : A.depth + 10 < recursionLimit) (hu : A.units + 100 < cLine) (hA : A.handled = none) (hn : n < 10000) (hk : k < 7) (ht : IsT t n k)
    (h : ∀ u h' tk', Ret hb frs h' → Lv.zero.list.rd h' (.ref u) (cvOf n k) → Q (.ref u) { s with heap := h', toks := tk' }) : wpC (model prog w) A (call (.ref 44) [.str t tx] []) Q E s := by
  have hfl : flat (tkOf k) ++ lastOf k = bh k := by
    match k, hk with
    | 0, _ | 1, _ | 2, _ | 3, _ | 4, _ | 5, _ | 6, _ => rfl
  have hlen : t.cps.size ≤ 10 := by
    have h1 := congrArg List.length ht
    rw [List.length_append, Array.length_toList] at h1
    have h2 := dg_len hn
    have h3 : ∀ k, k < 7 → (bh k).length ≤ 4 := by decide
    have := h3 k hk
    omega
  refine cv_call (toks := .dig (dg n) :: tkOf k) (last := lastOf k) (outs := outOf n k) R G hroom hu hA ?_ (out_ok hk) (by omega) (out_pc hn hk) ?_ fun u vs h' tk' ret il cv _ => ?_
  · rw [ht, ← hfl]
    show _ = (dg n ++ flat (tkOf k)) ++ lastOf k
    rw [List.append_assoc]
  · rw [out_flat]
    have h3 : ∀ k, k < 7 → (fl k).length ≤ 4 := by decide
    have := h3 k hk
    simp [cvOf]
    omega
  · rw [out_flat] at cv
    exact h u h' tk' ret (rd_of il cv)
theorem key44 (prog : Program) (w : World) (mg mb : Str → Option Value) : KeyFn prog w mg mb 44 P44 := by
  intro A E s hb l frs t tx ds Q R G hroom hu hA hP h
  obtain ⟨n, k, hn, hk, ht, rfl⟩ := hP
  exact cv_T R G (by omega) (by omega) hA hn hk ht h
end Tx

section Ren
open TI
theorem free46 (n : Nat) : (46 : Nat) ∉ dg n := fun h => by have := dg_dig n 46 h; revert this; decide
theorem bh46 {k : Nat} (hk : k < 5) : bh k = [] ∨ (bh k).head? = some 46 := by
  match k, hk with
  | 0, _ => exact .inl rfl
  | 1, _ | 2, _ | 3, _ | 4, _ => exact .inr rfl
theorem isT_len {t : Str} {n k : Nat} (h : n < 10000) (hk : k < 7) (ht : IsT t n k) : t.length ≤ 10 := by
  have h1 := congrArg List.length ht
  rw [List.length_append, Array.length_toList] at h1
  have h2 := dg_len h
  have h3 : ∀ k, k < 7 → (bh k).length ≤ 4 := by decide
  have := h3 k hk
  show t.cps.size ≤ 10
  omega
theorem num_signs {n : Nat} (h : 3 ≤ n) : (Str.ofString (toString ((n : Int) - 3))).cps.toList = dg (n - 3) := by
  have e : ((n : Int) - 3) = ((n - 3 : Nat) : Int) := by omega
  rw [e, KIN.signs_num]
  rfl
/-- system_alias of a release whose first field is a number -/
theorem al_T {prog : Program} {w : World} {A : Around} {E : Value → Shared → Prop} {s : Shared} {mg mb : Str → Option Value} {Q : Value → Shared → Prop} {rel ver : Str} {t1 t2 t3 : Tok} {hb : Heap} {le : List Env} {frs : List (Addr × Obj)} {n k : Nat}
    (R : Rt A hb s.heap le frs) (G : Gr w mg mb hb) (hroom : A.depth + 5 < recursionLimit) (hu : A.units + 100 < cLine) (hA : A.handled = none)
    (hge : ¬ rel.cps.toList < [53]) (ht : IsT rel n k) (hn : n < 10000) (hn3 : 3 ≤ n) (hk : k < 5)
    (h : ∀ u h' tk' rn t1' t2', Ret hb frs h' → IsT rn (n - 3) k → h'.IsTuple u #[.str "Solaris" t1', .str rn t2', .str ver t3] → hb.get? u = none → Q (.ref u) { s with heap := h', toks := tk' }) :
    wpC (model prog w) A (call (.ref 51) [.str "SunOS" t1, .str rel t2, .str ver t3] []) Q E s := by
  have hz := isT_len hn (by omega) ht
  refine al_num (a := dg n) (b := bh k) (n := (n : Int)) R G hroom hu hA hge ht (free46 n) (bh46 hk) (dg_reads hn) (by omega) (by omega) ⟨?_, trivial⟩ ⟨by omega, trivial⟩ fun u h' tk' rn t1' t2' ret hrn tup nw => h u h' tk' rn t1' t2' ret ?_ tup nw
  · show (Str.ofString (toString ((n : Int) - 3))).cps.size ≤ 100
    rw [← Array.length_toList, num_signs hn3]
    exact Nat.le_trans (dg_len (by omega)) (by decide)
  · show rn.cps.toList = _
    rw [hrn, num_signs hn3]

noncomputable def P92 (t : Str) (ds : List CvI) : Prop := ∃ n k, n < 10000 ∧ 3 ≤ n ∧ k < 5 ∧ IsT t n k ∧ ¬ t.cps.toList < [53] ∧ ds = cvOf (n - 3) k
theorem C_out {α : Type} {M : Model} {A : Around} {E : Value → Shared → Prop} {s : Shared} {t : Sem α} {Q : α → Shared → Prop} {h₀ : Heap} {L : Addr} {m : Str → Option Value} {l : List Env} {frs new : List (Addr × Obj)} {name : Str} {scope : Scope} {a : Addr} {cd : Value}
    (hfr : A.frames = some l) (Fs : Frs l frs) (F : Fr h₀ L s.heap m) (N : News h₀ L s.heap (new ++ frs)) (hk : scope.kind = .function)
    (h : ∀ oL, Rt (A.deeper (envOf name scope L a cd)) (gone s.heap (L :: frs.map (·.1))) s.heap (envOf name scope L a cd :: l) ((L, oL) :: frs) → s.heap.get? L = some oL → wpC M (A.deeper (envOf name scope L a cd)) t Q E s) :
    wpC M (A.deeper (envOf name scope L a cd)) t Q E s := by
  obtain ⟨oL, R, hL⟩ := Rt.out (name := name) (scope := scope) (a := a) (cd := cd) hfr Fs F N hk
  exact h oL R hL
theorem key92 (prog : Program) (w : World) (mg mb : Str → Option Value) : KeyFn prog w mg mb 92 P92 := by
  intro A E s hb l frs t tx ds Q R G hroom hu hA hP h
  obtain ⟨n, k, hn, hn3, hk, ht, hge, rfl⟩ := hP
  obtain ⟨X, T⟩ := id G
  refine' call_rt (binds := [("text", .str t tx)]) R X T.nolimit (by omega) ?ho ?hc ?hbind ?hloc ?hco ?hgen ?hk ?hcell ?_
  walk_at "mine fn"
  case hbind => exact BindsTo.of_eq rfl
  walk_at "mine enter"
  intro L h₁ tk₁ F N
  obtain ⟨oc4, od4, fd4, osl4, h44⟩ := fn_44 w
  obtain ⟨oc5, od5, fd5, osl5, h51⟩ := fn_51 w
  refine C_execs_cons (C_Return_some (C_Call_fn (f := 44) (o := ⟨oc4, od4, .func fd4, osl4⟩) rfl ?_))
  k_fold
  walk_at "mine steps"
  refine C_args_cons (C_Subscript (C_Call_fn (f := 51) (o := ⟨oc5, od5, .func fd5, osl5⟩) rfl ?_))
  k_fold
  walk_at "mine steps"
  refine C_args_cons (wpC_of ?_)
  walk_at "mine steps"
  refine C_args_cons (wpC_of ?_)
  walk_at "mine steps"
  refine C_args_cons (wpC_of ?_)
  walk_at "mine steps"
  refine C_args_nil (C_kws_nil ⟨F.keep _ _ (X _ _ h51), ?_⟩)
  refine C_out (new := []) R.stack R.Fs F N rfl fun oL R₄ hL₄ => ?_
  refine al_T R₄ (G.keeps (base_keeps (new := []) F N)) ?_ ?_ hA hge ht hn hn3 hk fun u h₅ tk₅ rn t1' t2' ret₅ hrn tup₅ _ => ?_
  · show A.depth + 1 + 5 < _; omega
  · show A.units + 3 + 100 < _; omega
  obtain ⟨frs₅, SU₅, F₅, N₅⟩ := ret₅.back (new := []) F N (fun _ q => nomatch q) hL₄
  clear F N
  show wpAny _ _ _ _ _ _
  k_fold
  walk_at "mine steps"
  refine C_args_nil (C_kws_nil ⟨F₅.keep _ _ (X _ _ h44), ?_⟩)
  refine C_out (new := []) R.stack (R.Fs.up SU₅) F₅ N₅ rfl fun oL R₆ hL₆ => ?_
  refine cv_T (n := n - 3) (k := k) R₆ (G.keeps (base_keeps (new := []) F₅ N₅)) ?_ ?_ hA (by omega) (by omega) hrn fun u₇ h₇ tk₇ ret₇ rd₇ => ?_
  · show A.depth + 1 + 10 < _; omega
  · show A.units + 3 + 100 < _; omega
  obtain ⟨frs₇, SU₇, F₇, N₇⟩ := ret₇.back (new := []) F₅ N₅ (fun _ q => nomatch q) hL₆
  exact h u₇ h₇ tk₇ (Ret.leave (new := []) (SU₅.trans SU₇) F₇ N₇) rd₇

section
open PySem.NumText
theorem seen_ascii {x : Str} (h : ∀ c ∈ x.cps.toList, 33 ≤ c ∧ c < 128) : numSeenOf x = x.cps.toList := by
  have e1 : numTextOf x = x.cps.toList := by
    refine if_pos ?_
    rw [← Array.all_toList, List.all_eq_true]
    intro c hc
    have := h c hc
    exact decide_eq_true (by omega)
  show (numTextOf x).takeWhile _ = _
  rw [e1]
  refine takeWhile_all fun c hc => ?_
  have := h c hc
  exact bne_iff_ne.mpr (by omega)
theorem digits_bad (l r : List Nat) (c : Nat) (hc : ∀ p, step 10 p c = none) : digits? 10 (l ++ c :: r) = none := by
  unfold digits?
  rw [List.foldlM_append]
  cases l.foldlM (step 10) ((#[] : Array Nat), false) with
  | none => rfl
  | some p =>
    show ((c :: r).foldlM (step 10) p).bind _ = none
    rw [List.foldlM_cons, hc p]
    rfl
theorem step45 (p : Array Nat × Bool) : step 10 p 45 = none := by
  unfold NumText.step
  rw [if_neg (by decide), show digit? 45 = none by decide +kernel]
theorem step98 (p : Array Nat × Bool) : step 10 p 98 = none := by
  unfold NumText.step
  rw [if_neg (by decide), show digit? 98 = some 11 by decide +kernel]
  rfl
theorem odd_chars {n k : Nat} (hk : k = 5 ∨ k = 6) : ∀ c ∈ dg n ++ bh k, 33 ≤ c ∧ c < 128 := by
  intro c hc
  rcases List.mem_append.mp hc with hc | hc
  · have := dg_dig n c hc
    unfold digB at this
    rw [Bool.and_eq_true, decide_eq_true_eq, decide_eq_true_eq] at this
    omega
  · rcases hk with rfl | rfl
    · have : ∀ c ∈ bh 5, 33 ≤ c ∧ c < 128 := by decide
      exact this c hc
    · have : ∀ c ∈ bh 6, 33 ≤ c ∧ c < 128 := by decide
      exact this c hc
theorem core_same {l : List Nat} (h : ∀ c ∈ l, 33 ≤ c ∧ c < 128) (h0 : ∀ c, l.head? = some c → c ≠ 45 ∧ c ≠ 43) : core l = l := by
  have dw : ∀ l : List Nat, (∀ c ∈ l, 33 ≤ c ∧ c < 128) → l.dropWhile blank = l := by
    intro l h
    cases l with
    | nil => rfl
    | cons c r => exact dropWhile_of (h c List.mem_cons_self).1
  unfold core
  rw [dw l h]
  have hs : sign l = (false, l) := by
    cases l with
    | nil => rfl
    | cons c r => exact sign_of (h0 c rfl).1 (h0 c rfl).2
  rw [hs]
  show (l.reverse.dropWhile blank).reverse = l
  rw [dw l.reverse fun c hc => h c (List.mem_reverse.mp hc), List.reverse_reverse]
theorem odd_refuses {n k : Nat} (hk : k = 5 ∨ k = 6) : digits? 10 (core (numSeenOf ⟨(dg n ++ bh k).toArray⟩)) = none := by
  have hc := odd_chars (n := n) hk
  rw [seen_ascii (by simpa using hc)]
  show digits? 10 (core (dg n ++ bh k)) = none
  rw [core_same hc ?_]
  · rcases hk with rfl | rfl
    · exact digits_bad _ _ _ step45
    · exact digits_bad _ _ _ step98
  · intro c h
    cases hd : dg n with
    | nil => exact absurd hd (dg_ne n)
    | cons d r =>
      rw [hd] at h
      obtain rfl := Option.some.inj h
      have := dg_dig n d (by rw [hd]; exact List.mem_cons_self)
      unfold digB at this
      rw [Bool.and_eq_true, decide_eq_true_eq, decide_eq_true_eq] at this
      omega
end
theorem al_O {prog : Program} {w : World} {A : Around} {E : Value → Shared → Prop} {s : Shared} {mg mb : Str → Option Value} {Q : Value → Shared → Prop} {rel ver : Str} {t1 t2 t3 : Tok} {hb : Heap} {le : List Env} {frs : List (Addr × Obj)} {n k : Nat}
    (R : Rt A hb s.heap le frs) (G : Gr w mg mb hb) (hroom : A.depth + 5 < recursionLimit) (hu : A.units + 100 < cLine) (hA : A.handled = none)
    (hge : ¬ rel.cps.toList < [53]) (ht : IsT rel n k) (hn : n < 10000) (hk : k = 5 ∨ k = 6)
    (h : ∀ u h' tk' t1', Ret hb frs h' → h'.IsTuple u #[.str "Solaris" t1', .str rel t2, .str ver t3] → hb.get? u = none → Q (.ref u) { s with heap := h', toks := tk' }) :
    wpC (model prog w) A (call (.ref 51) [.str "SunOS" t1, .str rel t2, .str ver t3] []) Q E s := by
  have hz := isT_len hn (by omega) ht
  have hc := odd_chars (n := n) hk
  have h46 : (46 : Nat) ∉ dg n ++ bh k := fun q => by
    rcases List.mem_append.mp q with q | q
    · exact free46 n q
    · rcases hk with rfl | rfl
      · revert q; decide
      · revert q; decide
  refine al_odd (a := dg n ++ bh k) (b := []) R G hroom hu hA hge (by rw [List.append_nil]; exact ht) h46 (.inl rfl) (odd_refuses hk) ?_ ⟨by omega, trivial⟩ h
  refine Nat.le_trans (StrLaws.reprText_len _ fun c hm => ?_) ?_
  · have := hc c (by simpa using hm)
    have h16 : (16 : Nat) ^ 8 = 4294967296 := by decide
    omega
  · have h1 : (⟨(dg n ++ bh k).toArray⟩ : Str).length = (dg n ++ bh k).length := by show (dg n ++ bh k).toArray.size = _; rw [List.size_toArray]
    have h2 := congrArg List.length ht
    rw [Array.length_toList] at h2
    rw [h1, ← h2]
    have : rel.cps.size ≤ 10 := hz
    omega
end Ren

section Srt
open PySem.W
section
variable {cmp : Nat → Nat → (Bool → Shared → Prop) → Shared → Prop} {r : Nat → Nat} {n : Nat} {s : Shared}
noncomputable def SrtP (n : Nat) (p : Array Nat) : Prop := p.toList.Perm (List.range n)
noncomputable def SrtK (r : Nat → Nat) (p : Array Nat) (i : Nat) : Nat := r (p.getD i 0)
noncomputable def SrtTo (r : Nat → Nat) (p : Array Nat) (k : Nat) : Prop := ∀ i j, i < j → j < k → SrtK r p i < SrtK r p j
noncomputable def SrtDn (r : Nat → Nat) (p : Array Nat) (k : Nat) : Prop := ∀ i j, i < j → j < k → SrtK r p j < SrtK r p i
noncomputable def SrtC (cmp : Nat → Nat → (Bool → Shared → Prop) → Shared → Prop) (r : Nat → Nat) (n : Nat) (s : Shared) : Prop := ∀ i j (C : Bool → Shared → Prop), i < n → j < n → C (decide (r i < r j)) s → cmp i j C s
noncomputable def SrtI (r : Nat → Nat) (n : Nat) : Prop := ∀ i j, i < n → j < n → r i = r j → i = j
theorem srt_size {p : Array Nat} (h : SrtP n p) : p.size = n := by
  have := h.length_eq
  simpa using this
theorem srt_lt {p : Array Nat} (h : SrtP n p) (h0 : 0 < n) (i : Nat) : p.getD i 0 < n := by
  by_cases hi : i < p.size
  · have e : p.getD i 0 = p[i] := by simp [Array.getD, hi]
    rw [e]
    exact List.mem_range.mp (h.mem_iff.mp (by simp))
  · have e : p.getD i 0 = 0 := by simp [Array.getD, hi]
    rw [e]; exact h0
theorem srt_ne (hI : SrtI r n) {p : Array Nat} (h : SrtP n p) {i j : Nat} (hi : i < n) (hj : j < n) (hij : i ≠ j) : SrtK r p i ≠ SrtK r p j := fun q => by
  have h0 : 0 < n := Nat.lt_of_le_of_lt (Nat.zero_le _) hi
  have e := hI _ _ (srt_lt h h0 i) (srt_lt h h0 j) q
  have hz := srt_size h
  have hnd : p.toList.Nodup := h.nodup_iff.mpr List.nodup_range
  have hi' : i < p.size := by omega
  have hj' : j < p.size := by omega
  have e1 : p.getD i 0 = p[i] := by simp [Array.getD, hi']
  have e2 : p.getD j 0 = p[j] := by simp [Array.getD, hj']
  rw [e1, e2] at e
  have hi2 : i < p.toList.length := by simpa using hi'
  have hj2 : j < p.toList.length := by simpa using hj'
  have e' : p.toList[i] = p.toList[j] := by simpa using e
  exact hij (List.getElem_inj hnd |>.mp e')
theorem srt_asc (hC : SrtC cmp r n s) (hI : SrtI r n) {p : Array Nat} (hp : SrtP n p) {Q : Nat → Shared → Prop} : ∀ (f m : Nat), 1 ≤ m → m + f ≤ n → SrtTo r p m →
    (∀ m', m ≤ m' → m' ≤ m + f → SrtTo r p m' → (m' < m + f → SrtK r p m' < SrtK r p (m' - 1)) → Q m' s) → (kas_asc p f m).kasWp cmp Q s
  | 0, m, h1, h2, h3, h => h m (Nat.le_refl _) (Nat.le_refl _) h3 fun q => absurd q (by omega)
  | f + 1, m, h1, h2, h3, h => by
    have h0 : 0 < n := by omega
    refine hC _ _ _ (srt_lt hp h0 _) (srt_lt hp h0 _) ?_
    show KasT.kasWp cmp (if decide (SrtK r p m < SrtK r p (m - 1)) = true then _ else _) Q s
    by_cases hlt : SrtK r p m < SrtK r p (m - 1)
    · rw [if_pos (decide_eq_true hlt)]
      exact h m (Nat.le_refl _) (by omega) h3 fun _ => hlt
    · rw [if_neg (by simpa using hlt)]
      have hne := srt_ne hI hp (i := m) (j := m - 1) (by omega) (by omega) (by omega)
      refine srt_asc hC hI hp f (m + 1) (by omega) (by omega) (fun i j hij hj => ?_) fun m' a b c d => h m' (by omega) (by omega) c fun q => d (by omega)
      by_cases hjm : j < m
      · exact h3 i j hij hjm
      · obtain rfl : j = m := by omega
        by_cases hi : i = j - 1
        · subst hi; omega
        · have := h3 i (j - 1) (by omega) (by omega)
          omega
theorem srt_desc (hC : SrtC cmp r n s) (hI : SrtI r n) {p : Array Nat} (hp : SrtP n p) {Q : Array Nat × Nat × Nat → Shared → Prop} : ∀ (f m : Nat), 1 ≤ m → m + f ≤ n → SrtDn r p m →
    (∀ m', m ≤ m' → m' ≤ m + f → SrtDn r p m' → Q (p, m', 0) s) → (kas_desc f p m 0).kasWp cmp Q s
  | 0, m, h1, h2, h3, h => h m (Nat.le_refl _) (Nat.le_refl _) h3
  | f + 1, m, h1, h2, h3, h => by
    have h0 : 0 < n := by omega
    refine hC _ _ _ (srt_lt hp h0 _) (srt_lt hp h0 _) ?_
    show KasT.kasWp cmp (if decide (SrtK r p m < SrtK r p (m - 1)) = true then _ else _) Q s
    have hne := srt_ne hI hp (i := m) (j := m - 1) (by omega) (by omega) (by omega)
    by_cases hlt : SrtK r p m < SrtK r p (m - 1)
    · rw [if_pos (decide_eq_true hlt), if_neg (by omega)]
      refine srt_desc hC hI hp f (m + 1) (by omega) (by omega) (fun i j hij hj => ?_) fun m' a b c => h m' (by omega) (by omega) c
      by_cases hjm : j < m
      · exact h3 i j hij hjm
      · obtain rfl : j = m := by omega
        by_cases hi : i = j - 1
        · subst hi; omega
        · have := h3 i (j - 1) (by omega) (by omega)
          omega
    · rw [if_neg (by simpa using hlt)]
      refine hC _ _ _ (srt_lt hp h0 _) (srt_lt hp h0 _) ?_
      show KasT.kasWp cmp (if decide (SrtK r p (m - 1) < SrtK r p m) = true then _ else _) Q s
      rw [if_pos (decide_eq_true (by omega))]
      exact h m (Nat.le_refl _) (by omega) h3
theorem getD_of {p q : Array Nat} {i j : Nat} (h : p[i]? = q[j]?) : p.getD i 0 = q.getD j 0 := by
  rw [Array.getD_eq_getD_getElem?, Array.getD_eq_getD_getElem?, h]
theorem srt_rev {p : Array Nat} {m : Nat} (hm : m ≤ p.size) (i : Nat) : SrtK r (kas_rev p 0 m) i = if i < m then SrtK r p (m - 1 - i) else SrtK r p i := by
  have e := getElem?_mirror_all (xs := p) (i := 0) (j := m) hm i
  unfold SrtK kas_rev
  by_cases h : i < m
  · rw [if_pos ⟨Nat.zero_le _, h⟩] at e
    rw [if_pos h]
    have := getD_of e
    rw [Nat.zero_add] at this
    rw [this]
  · rw [if_neg (fun q => h q.2)] at e
    rw [if_neg h, getD_of e]
theorem srt_perm {p q : Array Nat} (h : SrtP n p) (k : q.Perm p) : SrtP n q := (Array.perm_iff_toList_perm.mp k).trans h
theorem srt_count (hC : SrtC cmp r n s) (hI : SrtI r n) {p : Array Nat} (hp : SrtP n p) (h2 : 2 ≤ n) {Q : Nat × Array Nat → Shared → Prop}
    (h : ∀ m q, 1 ≤ m → m ≤ n → SrtP n q → SrtTo r q m → Q (m, q) s) : (kas_count n p).kasWp cmp Q s := by
  unfold kas_count
  rw [KasT.kasWp_bind]
  refine srt_asc hC hI hp (n - 1) 1 (Nat.le_refl _) (by omega) (fun i j hij hj => by omega) fun m h1 h2' hs hst => ?_
  by_cases hmn : m = n
  · rw [if_pos (by simpa using hmn)]
    exact h m p h1 (by omega) hp hs
  · rw [if_neg (by simpa using hmn)]
    have h0 : 0 < n := by omega
    by_cases hm1 : m > 1
    · rw [if_pos hm1]
      refine hC _ _ _ (srt_lt hp h0 _) (srt_lt hp h0 _) ?_
      show KasT.kasWp cmp (if decide (SrtK r p 0 < SrtK r p (m - 1)) = true then _ else _) Q s
      rw [if_pos (decide_eq_true (hs 0 (m - 1) (by omega) (by omega)))]
      exact h m p h1 (by omega) hp hs
    · rw [if_neg hm1]
      obtain rfl : m = 1 := by omega
      have hd := hst (by omega)
      unfold kas_descPart
      rw [KasT.kasWp_bind]
      refine srt_desc hC hI hp (n - (1 + 1)) (1 + 1) (by omega) (by omega) (fun i j hij hj => ?_) fun m' a b hdn => ?_
      · obtain rfl : j = 1 := by omega
        obtain rfl : i = 0 := by omega
        exact hd
      · dsimp only
        rw [if_neg (by omega)]
        unfold kas_tail3
        rw [KasT.kasWp_bind]
        have hz := srt_size hp
        have hpr : SrtP n (kas_rev p 0 m') := srt_perm hp (mirror_perm _ _ _ _)
        refine srt_asc hC hI hpr (n - m') m' (by omega) (by omega) (fun i j hij hj => ?_) fun m'' a' b' hs' _ => ?_
        · rw [srt_rev (by omega), srt_rev (by omega), if_pos (by omega), if_pos hj]
          exact hdn _ _ (by omega) (by omega)
        · exact h m'' _ (by omega) (by omega) hpr hs'
theorem srt_place (hC : SrtC cmp r n s) (hI : SrtI r n) {p : Array Nat} (hp : SrtP n p) {k : Nat} (hk : k < n) (hs : SrtTo r p k) {Q : Nat → Shared → Prop}
    (h : ∀ l, l ≤ k → (∀ i, i < l → SrtK r p i < SrtK r p k) → (∀ i, l ≤ i → i < k → SrtK r p k < SrtK r p i) → Q l s) : ∀ (f l m : Nat), l ≤ m → m ≤ k → m - l ≤ f →
    (∀ i, i < l → SrtK r p i < SrtK r p k) → (∀ i, m ≤ i → i < k → SrtK r p k < SrtK r p i) → (kas_place p k f l m).kasWp cmp Q s
  | 0, l, m, h1, h2, h3, h4, h5 => h l (by omega) h4 (by obtain rfl : l = m := by omega
                                                         exact h5)
  | f + 1, l, m, h1, h2, h3, h4, h5 => by
    unfold kas_place
    by_cases hlm : l ≥ m
    · rw [if_pos hlm]
      exact h l (by omega) h4 (by obtain rfl : l = m := by omega
                                  exact h5)
    · rw [if_neg hlm]
      have h0 : 0 < n := by omega
      refine hC _ _ _ (srt_lt hp h0 _) (srt_lt hp h0 _) ?_
      show KasT.kasWp cmp (if decide (SrtK r p k < SrtK r p ((l + m) / 2)) = true then _ else _) Q s
      have hne := srt_ne hI hp (i := k) (j := (l + m) / 2) hk (by omega) (by omega)
      by_cases hlt : SrtK r p k < SrtK r p ((l + m) / 2)
      · rw [if_pos (decide_eq_true hlt)]
        refine srt_place hC hI hp hk hs h f l _ (by omega) (by omega) (by omega) h4 fun i hi hik => ?_
        by_cases e : i = (l + m) / 2
        · rw [e]; exact hlt
        · exact Nat.lt_trans hlt (hs _ _ (by omega) hik)
      · rw [if_neg (by simpa using hlt)]
        refine srt_place hC hI hp hk hs h f _ m (by omega) (by omega) (by omega) (fun i hi => ?_) h5
        by_cases e : i = (l + m) / 2
        · rw [e]; omega
        · have := hs i ((l + m) / 2) (by omega) (by omega)
          omega
theorem srt_bub {p : Array Nat} {k l : Nat} (hk : k < p.size) (hl : l ≤ k) (i : Nat) : SrtK r (bubble p k (k - l)) i = if i = l then SrtK r p k else if l < i ∧ i ≤ k then SrtK r p (i - 1) else SrtK r p i := by
  have e := getElem?_bubble hk (k - l) (by omega) i
  rw [show k - (k - l) = l by omega] at e
  unfold SrtK
  by_cases h1 : i = l
  · rw [if_pos h1] at e
    rw [if_pos h1, getD_of e]
  · rw [if_neg h1] at e
    rw [if_neg h1]
    by_cases h2 : l < i ∧ i ≤ k
    · rw [if_pos h2] at e
      rw [if_pos h2, getD_of e]
    · rw [if_neg h2] at e
      rw [if_neg h2, getD_of e]
theorem srt_bin (hC : SrtC cmp r n s) (hI : SrtI r n) {Q : Array Nat → Shared → Prop} (h : ∀ q, SrtP n q → SrtTo r q n → Q q s) : ∀ (f k : Nat) (p : Array Nat), 1 ≤ k → k + f = n → SrtP n p → SrtTo r p k → (kas_bin f p k).kasWp cmp Q s
  | 0, k, p, h1, h2, hp, hs => h p hp (by rw [← h2]; exact hs)
  | f + 1, k, p, h1, h2, hp, hs => by
    unfold kas_bin
    rw [KasT.kasWp_bind]
    have hz := srt_size hp
    refine srt_place hC hI hp (by omega) hs (fun l hl ha hb => ?_) k 0 k (by omega) (Nat.le_refl _) (by omega) (fun i hi => absurd hi (by omega)) fun i hi hik => absurd hik (by omega)
    refine srt_bin hC hI h f (k + 1) _ (by omega) (by omega) (srt_perm hp (bubble_perm _ _ _)) fun i j hij hj => ?_
    rw [srt_bub (by omega) hl, srt_bub (by omega) hl]
    by_cases e1 : i = l
    · rw [if_pos e1, if_neg (by omega), if_pos (by omega)]
      exact hb _ (by omega) (by omega)
    · rw [if_neg e1]
      by_cases e2 : j = l
      · rw [if_pos e2, if_neg (by omega)]
        exact ha _ (by omega)
      · rw [if_neg e2]
        split <;> split
        · exact hs _ _ (by omega) (by omega)
        · omega
        · exact hs _ _ (by omega) (by omega)
        · exact hs _ _ (by omega) (by omega)
theorem srt_sort (hC : SrtC cmp r n s) (hI : SrtI r n) (h2 : 2 ≤ n) {Q : Array Nat → Shared → Prop} (h : ∀ q, SrtP n q → SrtTo r q n → Q q s) : (kas_sort n).kasWp cmp Q s := by
  unfold kas_sort
  rw [KasT.kasWp_bind]
  refine srt_count hC hI (p := List.toArray (List.range n)) (List.Perm.refl _) h2 fun m q h1 hm hq hs => ?_
  dsimp only
  by_cases hmn : m < n
  · rw [if_pos hmn, show max m 1 = m by omega]
    exact srt_bin hC hI h (n - m) m q h1 (by omega) hq hs
  · rw [if_neg hmn]
    obtain rfl : m = n := by omega
    exact h q hq hs
end
end Srt

section Sun
open TI
section
variable {prog : Program} {w : World} {A : Around} {E : Value → Shared → Prop} {s : Shared} {Q : Value → Shared → Prop} {t u : Tok}
theorem pow10_0 (h : Q (.int 1 s.toks) { s with toks := s.toks + 1 }) : wpAny (model prog w) A (binaryOp .Pow (.int 10 t) (.int 0 u)) Q E s := pow_int_small (by decide) (by decide) (by decide) h
theorem pow10_1 (h : Q (.int 10 s.toks) { s with toks := s.toks + 1 }) : wpAny (model prog w) A (binaryOp .Pow (.int 10 t) (.int 1 u)) Q E s := pow_int_small (by decide) (by decide) (by decide) h
theorem pow10_2 (h : Q (.int 100 s.toks) { s with toks := s.toks + 1 }) : wpAny (model prog w) A (binaryOp .Pow (.int 10 t) (.int 2 u)) Q E s := pow_int_small (by decide) (by decide) (by decide) h
end
local macro_rules | `(tactic| walk_at "binaryOp Pow int int") => `(tactic| first | refine pow10_0 ?_ | refine pow10_1 ?_ | refine pow10_2 ?_)
/-- a statement that goes on -/
noncomputable def NextR (R : Shared → Prop) (f : Flow) (s' : Shared) : Prop := f = .next ∧ R s'
theorem C_next {M : Model} {A : Around} {E : Value → Shared → Prop} {s : Shared} {env : Env} {st : Stmt} {rest : List Stmt} {Q : Flow → Shared → Prop} (R : Shared → Prop)
    (h : wpC M A (exec st env) (NextR R) (fun _ _ => False) s) (k : ∀ s', R s' → wpC M A (execs rest env) Q E s') : wpC M A (execs (st :: rest) env) Q E s :=
  C_execs_cons (wpC_mono h (fun f s' q => by obtain ⟨rfl, q⟩ := q; exact k s' q) fun _ _ q => q.elim)
noncomputable def RetR (R : Value → Shared → Prop) (f : Flow) (s' : Shared) : Prop := ∃ v, f = .ret v ∧ R v s'
theorem C_last {M : Model} {A : Around} {E : Value → Shared → Prop} {s : Shared} {env : Env} {st : Stmt} {rest : List Stmt} {Q : Flow → Shared → Prop} (R : Value → Shared → Prop)
    (h : wpC M A (exec st env) (RetR R) (fun _ _ => False) s) (k : ∀ v s', R v s' → Q (.ret v) s') : wpC M A (execs (st :: rest) env) Q E s :=
  C_execs_cons (wpC_mono h (fun f s' q => by obtain ⟨v, rfl, q⟩ := q; exact k v s' q) fun _ _ q => q.elim)
theorem sun_num (x p : Int) (hp : p = 1 ∨ p = 10 ∨ p = 100) : 1 ≤ (1 + (x.fdiv 3).fmod 9) * p + (x.fdiv 189).fmod p ∧ (1 + (x.fdiv 3).fmod 9) * p + (x.fdiv 189).fmod p ≤ 999 := by
  have h9 : 0 ≤ (x.fdiv 3).fmod 9 ∧ (x.fdiv 3).fmod 9 < 9 := ⟨Int.fmod_nonneg_of_pos _ (by decide), Int.fmod_lt_of_pos _ (by decide)⟩
  have hq : 0 ≤ (x.fdiv 189).fmod p ∧ (x.fdiv 189).fmod p < p := ⟨Int.fmod_nonneg_of_pos _ (by omega), Int.fmod_lt_of_pos _ (by omega)⟩
  rcases hp with rfl | rfl | rfl <;> omega
noncomputable def SunMid (h₀ : Heap) (L : Addr) (s : Shared) (s' : Shared) : Prop :=
  ∃ h tk m n u k u', s' = { s with heap := h, toks := tk } ∧ Fr h₀ L h m ∧ News h₀ L h [] ∧ m "first" = some (.int n u) ∧ m "which" = some (.int k u') ∧ 1 ≤ n ∧ n ≤ 999 ∧ 0 ≤ k ∧ k < 7
noncomputable def SunMid3 (h₀ : Heap) (L : Addr) (s : Shared) (n k : Int) (s' : Shared) : Prop :=
  ∃ h tk m u u' b ub, s' = { s with heap := h, toks := tk } ∧ Fr h₀ L h m ∧ News h₀ L h [] ∧ m "first" = some (.int n u) ∧ m "which" = some (.int k u') ∧ m "behind" = some (.str b ub) ∧ b.cps.toList = bh k.toNat
/-- what stands behind the number, as the law's pairs -/
noncomputable def flp : Nat → List (List CvI)
  | 0 => []
  | 1 => [[.num 100, .num 0]]
  | 2 => [[.num 100, .num 9]]
  | 3 => [[.num 100, .num 10]]
  | 4 => [[.num 100, .num 9], [.num 30, .bee]]
  | 5 => [[.num 100, .num 9]]
  | _ => [[.num 30, .bee]]
noncomputable def TupsIn (l : List (Addr × Obj)) (us : List Value) (xs : List (List CvI)) : Prop :=
  All2 (fun v d => ∃ t its n, v = .ref t ∧ (t, ({ cls := .type "tuple", data := .seq its n } : Obj)) ∈ l ∧ CvAre its.toList d) us xs
noncomputable def SunMid4 (h₀ : Heap) (L : Addr) (s : Shared) (n k : Int) (s' : Shared) : Prop :=
  ∃ h tk m u u' b ub lr us nn fz, s' = { s with heap := h, toks := tk } ∧ Fr h₀ L h m ∧ News h₀ L h ((lr, W.listOf us.toArray nn) :: fz) ∧ m "first" = some (.int n u) ∧ m "which" = some (.int k u') ∧ m "behind" = some (.str b ub) ∧ b.cps.toList = bh k.toNat ∧
    m "ranks" = some (.ref lr) ∧ TupsIn fz us (flp k.toNat) ∧ us.length ≤ 2
noncomputable def fnBody : Stmt → List Stmt
  | .FunctionDef _ _ b _ _ _ _ _ _ _ => b
  | _ => []
noncomputable def fnScope : Stmt → Scope
  | .FunctionDef _ _ _ _ _ _ s _ _ _ => s
  | _ => { kind := .function, names := [], isGenerator := false, isCoroutine := false }
noncomputable def topS (i : Nat) : Stmt := PySem.Challenge.pw_ph0115_01.main.body.getD i (.Pass ⟨0, 0, 0, 0⟩)
noncomputable def stOf (f i : Nat) : Stmt := (fnBody (topS f)).getD i (.Pass ⟨0, 0, 0, 0⟩)
noncomputable def sunEnv (L : Addr) : Env := envOf "_law_sun" (fnScope (topS 11)) L 85 (.ref 84)
theorem tups1 {l : List (Addr × Obj)} {t : Addr} {its : Array Value} {n : Nat} {d : List CvI} (h : (t, ({ cls := .type "tuple", data := .seq its n } : Obj)) ∈ l) (c : CvAre its.toList d) : TupsIn l [.ref t] [d] := .cons ⟨t, its, n, rfl, h, c⟩ .nil
theorem tups2 {l : List (Addr × Obj)} {t t' : Addr} {its its' : Array Value} {n n' : Nat} {d d' : List CvI} (h : (t, ({ cls := .type "tuple", data := .seq its n } : Obj)) ∈ l) (c : CvAre its.toList d)
    (h' : (t', ({ cls := .type "tuple", data := .seq its' n' } : Obj)) ∈ l) (c' : CvAre its'.toList d') : TupsIn l [.ref t, .ref t'] [d, d'] := .cons ⟨t, its, n, rfl, h, c⟩ (.cons ⟨t', its', n', rfl, h', c'⟩ .nil)
theorem news_pick {h₀ h : Heap} {L : Addr} {l : List (Addr × Obj)} {p : Addr × Obj} (N : News h₀ L h l) (hp : p ∈ l) : News h₀ L h (p :: l) := fun q hq => by
  rcases List.mem_cons.mp hq with rfl | hq
  · exact N _ hp
  · exact N _ hq
theorem sun_4 {prog : Program} {w : World} {A : Around} {s s₀ : Shared} {mg mb : Str → Option Value} {h₀ : Heap} {L : Addr} {m : Str → Option Value} {n k : Int} {u u' ub : Tok} {b : Str}
    (T : TopRead hd.view_39 (looseW hd.view_39 [Str.ofString "_twin_re_1", Str.ofString "_ver_stages", Str.ofString "insort_right", Str.ofString "bisect_right", Str.ofString "bisect_left"]) mg mb h₀) (X : (hd.heap_39 w.params).In h₀)
    (hroom : A.depth + 5 < recursionLimit) (hu : A.units + 100 < cLine) (hA : A.handled = none) (F : Fr h₀ L s.heap m) (hs : ∃ h tk, s = { s₀ with heap := h, toks := tk })
    (mf : m "first" = some (.int n u)) (mw : m "which" = some (.int k u')) (mb : m "behind" = some (.str b ub)) (hb : b.cps.toList = bh k.toNat) (hk1 : 0 ≤ k) (hk2 : k < 7) :
    wpC (model prog w) (A.deeper (sunEnv L)) (exec (stOf 11 3) (sunEnv L)) (NextR (SunMid4 h₀ L s₀ n k)) (fun _ _ => False) s := by
  refine wpC_of ?_
  show wpAny _ (Around.deeper _ (envOf _ (Scope.mk _ _ _ _ _) _ _ _)) (exec (Stmt.Assign _ _ _) (envOf _ (Scope.mk _ _ _ _ _) _ _ _)) _ _ _
  obtain ⟨hand, dep, fra, gua, uni⟩ := A
  obtain rfl : hand = none := hA
  obtain ⟨h₁, tk₁, rfl⟩ := hs
  have N : News h₀ L h₁ [] := News.nil
  show wpAny _ _ _ _ _ _
  k_fold
  walk_at "mine steps"
  all_goals
    (with_reducible rename Fr _ _ _ _ => F₃)
    (with_reducible rename News _ _ _ _ => N₃)
    (rename (k = _) => hk)
    subst hk
    refine' ⟨rfl, _, _, _, u, u', b, ub, _, _, 0, _, rfl, F₃, news_pick N₃ ?q0, ?q1, ?q2, ?q3, hb, ?q4, ?q5, ?q6⟩
    (case q1 => exact mf)
    (case q2 => exact mw)
    (case q3 => exact mb)
    (case q4 => exact rfl)
    (case q0 => repeat first | exact List.Mem.head _ | refine List.Mem.tail _ ?_)
    (case q5 => first
      | exact All2.nil
      | (refine tups1 (by repeat first | exact List.Mem.head _ | refine List.Mem.tail _ ?_) ?_; exact .cons ⟨_, rfl⟩ (.cons ⟨_, rfl⟩ .nil))
      | (refine tups2 (by repeat first | exact List.Mem.head _ | refine List.Mem.tail _ ?_) ?_ (by repeat first | exact List.Mem.head _ | refine List.Mem.tail _ ?_) ?_ <;> exact .cons ⟨_, rfl⟩ (.cons ⟨_, rfl⟩ .nil)))
    (case q6 => simp)
noncomputable def olds (h : Heap) : List Addr := (List.range h.objs.size).filter fun b => (h.get? b).isSome
theorem mem_olds {h : Heap} {b : Addr} : b ∈ olds h ↔ ∃ o, h.get? b = some o := by
  unfold olds
  rw [List.mem_filter, Option.isSome_iff_exists]
  exact ⟨fun x => x.2, fun ⟨o, e⟩ => ⟨List.mem_range.mpr (Heap.lt_size e), o, e⟩⟩
/-- what is new in a heap -/
noncomputable def newPart (h₀ h : Heap) : Heap := gone h (olds h₀)
theorem new_get {h₀ h : Heap} {a : Addr} {o : Obj} (e : h.get? a = some o) (n : h₀.get? a = none) : (newPart h₀ h).get? a = some o :=
  (gone_get fun hm => by obtain ⟨o', e'⟩ := mem_olds.mp hm; rw [n] at e'; cases e').trans e
theorem new_some {h₀ h : Heap} {a : Addr} {o : Obj} (e : (newPart h₀ h).get? a = some o) : h.get? a = some o ∧ h₀.get? a = none := by
  have q := gone_some e
  refine ⟨q.2, ?_⟩
  cases hc : h₀.get? a with
  | none => rfl
  | some o' => exact absurd (mem_olds.mpr ⟨o', hc⟩) q.1
/-- what _law_sun tells: text, pairs, name -/
noncomputable def SunRd (hn : Heap) (v : Value) (n k : Nat) : Prop :=
  ∃ a t t1 lp nm t2, v = .ref a ∧ hn.IsTuple a #[.str t t1, .ref lp, .str nm t2] ∧ IsT t n k ∧ Lv.zero.tuple.list.rd hn (.ref lp) ([.num 100, .num n] :: flp k) ∧ (k < 5 → 3 ≤ n → IsT nm (n - 3) k) ∧ (5 ≤ k → IsT nm n k)
noncomputable def SunOut (h₀ : Heap) (s₀ : Shared) (n k : Nat) (v : Value) (s' : Shared) : Prop :=
  ∃ h tk, s' = { s₀ with heap := h, toks := tk } ∧ h₀.StaysIn h ∧ SunRd (newPart h₀ h) v n k
theorem sun_text {n : Nat} {b : Str} {k : Nat} (hb : b.cps.toList = bh k) : IsT (Str.ofString (toString ((n : Nat) : Int)) ++ b) n k := by
  show ((Str.ofString (toString ((n : Nat) : Int))).cps ++ b.cps).toList = _
  rw [Array.toList_append, KIN.signs_num, hb]
  rfl
theorem sun_size {n : Int} {b : Str} (h1 : -3 ≤ n) (h2 : n ≤ 999) (hb : b.length ≤ 4) : (Str.ofString (toString n)).length + b.length ≤ sizeLine := by
  have : (Str.ofString (toString n)).length ≤ 10 := by
    rw [PySem.ofString_length]
    have := int_text_length_le10 (a := n) (k := 3) (by decide) (by omega)
    omega
  rw [sizeLine_eq]
  omega
local macro_rules | `(tactic| walk_at "binaryOp Add str str") => `(tactic| (refine add_str (fun _ _ => ?_) (sun_size (by omega) (by omega) (by assumption))))
theorem tups_rd {h₀ h : Heap} {L : Addr} {l : List (Addr × Obj)} (N : News h₀ L h l) {us : List Value} {xs : List (List CvI)} (ht : TupsIn l us xs) : itemsRd Lv.zero.tuple (newPart h₀ h) us xs :=
  ht.mono fun v d => by
    rintro ⟨t, its, n, rfl, hm, hc⟩
    obtain ⟨h1, _, h3⟩ := N _ hm
    exact ⟨t, its.toList, rfl, ⟨_, new_get h1 h3, rfl, n, by simp⟩, hc⟩
theorem sun_done {h₀ h : Heap} {L D lp t0 : Addr} {m : Str → Option Value} {s₀ : Shared} {tk : Nat} {t nm : Str} {t1 t2 u0 u1 : Tok} {us : List Value} {x y : Addr × Obj} {fz : List (Addr × Obj)} {n k n1 n2 n3 : Nat} (F : Fr h₀ L h m)
    (N : News h₀ L h ((D, ({ cls := .type "tuple", data := .seq #[.str t t1, .ref lp, .str nm t2] n1 } : Obj)) :: (lp, ({ cls := .type "list", data := .seq ([Value.ref t0] ++ us).toArray n2 } : Obj)) :: x :: (t0, ({ cls := .type "tuple", data := .seq #[.int 100 u0, .int (n : Int) u1] n3 } : Obj)) :: y :: fz))
    (ht : TupsIn fz us (flp k)) (h1 : IsT t n k) (h2 : k < 5 → 3 ≤ n → IsT nm (n - 3) k) (h3 : 5 ≤ k → IsT nm n k) : RetR (SunOut h₀ s₀ n k) (.ret (.ref D)) { s₀ with heap := h, toks := tk } := by
  have Nf : News h₀ L h fz := fun p hp => N p (by simp [hp])
  have g1 := N _ List.mem_cons_self
  have g2 := N _ (List.mem_cons_of_mem _ List.mem_cons_self)
  have g3 := N _ (List.mem_cons_of_mem _ (List.mem_cons_of_mem _ (List.mem_cons_of_mem _ List.mem_cons_self)))
  refine ⟨_, rfl, h, tk, rfl, F.keep, D, t, t1, lp, nm, t2, rfl, ⟨_, new_get g1.1 g1.2.2, rfl, n1, rfl⟩, h1, ⟨lp, Value.ref t0 :: us, rfl, ⟨_, new_get g2.1 g2.2.2, rfl, n2, rfl⟩, .cons ?_ (tups_rd Nf ht)⟩, h2, h3⟩
  exact ⟨t0, [Value.int 100 u0, Value.int (n : Int) u1], rfl, ⟨_, new_get g3.1 g3.2.2, rfl, n3, rfl⟩, .cons ⟨_, rfl⟩ (.cons ⟨_, rfl⟩ .nil)⟩
theorem sun_name {n : Nat} {b : Str} {k : Nat} (hb : b.cps.toList = bh k) (h3 : 3 ≤ n) : IsT (Str.ofString (toString ((n : Int) - 3)) ++ b) (n - 3) k := by
  have e : ((n : Int) - 3) = ((n - 3 : Nat) : Int) := by omega
  rw [e]
  exact sun_text hb
theorem sun_5 {prog : Program} {w : World} {A : Around} {s s₀ : Shared} {mg mb : Str → Option Value} {h₀ : Heap} {L lr : Addr} {m : Str → Option Value} {n k : Nat} {u u' ub : Tok} {b : Str} {us : List Value} {nn : Nat} {fz : List (Addr × Obj)}
    (T : TopRead hd.view_39 (looseW hd.view_39 [Str.ofString "_twin_re_1", Str.ofString "_ver_stages", Str.ofString "insort_right", Str.ofString "bisect_right", Str.ofString "bisect_left"]) mg mb h₀) (X : (hd.heap_39 w.params).In h₀)
    (hroom : A.depth + 5 < recursionLimit) (hu : A.units + 100 < cLine) (hA : A.handled = none) (F : Fr h₀ L s.heap m) (hs : ∃ h tk, s = { s₀ with heap := h, toks := tk })
    (N : News h₀ L s.heap ((lr, W.listOf us.toArray nn) :: fz))
    (mf : m "first" = some (.int (n : Int) u)) (mw : m "which" = some (.int (k : Int) u')) (mb : m "behind" = some (.str b ub)) (mr : m "ranks" = some (.ref lr)) (hb : b.cps.toList = bh k) (ht : TupsIn fz us (flp k)) (hus : us.length ≤ 2) (hk2 : k < 7) (hn1 : 1 ≤ n) (hn2 : n ≤ 999) :
    wpC (model prog w) (A.deeper (sunEnv L)) (exec (stOf 11 4) (sunEnv L)) (RetR (SunOut h₀ s₀ n k)) (fun _ _ => False) s := by
  refine wpC_of ?_
  show wpAny _ (Around.deeper _ (envOf _ (Scope.mk _ _ _ _ _) _ _ _)) (exec (Stmt.Return _ _) (envOf _ (Scope.mk _ _ _ _ _) _ _ _)) _ _ _
  obtain ⟨hand, dep, fra, gua, uni⟩ := A
  obtain rfl : hand = none := hA
  obtain ⟨h₁, tk₁, rfl⟩ := hs
  have hbl : b.length ≤ 4 := by
    have h1 := congrArg List.length hb
    rw [Array.length_toList] at h1
    have h3 : ∀ k, k < 7 → (bh k).length ≤ 4 := by decide
    have := h3 k hk2
    show b.cps.size ≤ 4
    omega
  show wpAny _ _ _ _ _ _
  k_fold
  walk_at "mine steps"
  · (with_reducible rename Fr _ _ _ _ => F₃)
    (with_reducible rename News _ _ _ _ => N₃)
    exact sun_done F₃ N₃ ht (sun_text hb) (fun _ h3 => sun_name hb h3) fun h5 => by omega
  · (with_reducible rename Fr _ _ _ _ => F₃)
    (with_reducible rename News _ _ _ _ => N₃)
    exact sun_done F₃ N₃ ht (sun_text hb) (fun h5 => by omega) fun _ => sun_text hb
theorem sun_call {prog : Program} {w : World} {A : Around} {E : Value → Shared → Prop} {s : Shared} {mg mb : Str → Option Value} {Q : Value → Shared → Prop} {x : Int} {tx : Tok}
    (G : Gr w mg mb s.heap) (hroom : A.depth + 5 < recursionLimit) (hu : A.units + 100 < cLine) (hA : A.handled = none)
    (h : ∀ v h' tk' n k, 1 ≤ n → n ≤ 999 → k < 7 → s.heap.StaysIn h' → SunRd (newPart s.heap h') v n k → Q v { s with heap := h', toks := tk' }) :
    wpC (model prog w) A (call (.ref 85) [.int x tx] []) Q E s := by
  obtain ⟨X, T⟩ := id G
  obtain ⟨hand, dep, fra, gua, uni⟩ := A
  obtain rfl : hand = none := hA
  refine' call_ownC (binds := [("x", .int x tx)]) X T.nolimit (by simp only at hroom ⊢; omega) ?ho ?hc ?hbind ?hloc ?hco ?hgen ?hk ?hcell ?_
  walk_at "mine fn"
  case hbind => exact BindsTo.of_eq rfl
  walk_at "mine enter"
  intro L h₁ tk₁ F N
  refine C_step ?_
  k_fold
  walk_at "mine steps"
  refine C_next (SunMid s.heap L s) (wpC_of ?_) ?_
  · have h3 : x.fmod 3 = 0 ∨ x.fmod 3 = 1 ∨ x.fmod 3 = 2 := by rw [Int.fmod_eq_emod]; simp; omega
    have h7 : 0 ≤ (x.fdiv 27).fmod 7 ∧ (x.fdiv 27).fmod 7 < 7 := ⟨Int.fmod_nonneg_of_pos _ (by decide), Int.fmod_lt_of_pos _ (by decide)⟩
    (with_reducible rename Fr _ _ _ _ => F₂)
    rcases h3 with h3 | h3 | h3 <;> rw [h3] at F₂ <;> show wpAny _ _ _ _ _ _ <;> k_fold <;> walk_at "mine steps" <;> (with_reducible rename Fr _ _ _ _ => F₃)
    · obtain ⟨e1, e2⟩ := sun_num x 1 (.inl rfl)
      exact ⟨rfl, _, _, _, _, _, _, _, rfl, F₃, News.nil, rfl, rfl, e1, e2, h7.1, h7.2⟩
    · obtain ⟨e1, e2⟩ := sun_num x 10 (.inr (.inl rfl))
      exact ⟨rfl, _, _, _, _, _, _, _, rfl, F₃, News.nil, rfl, rfl, e1, e2, h7.1, h7.2⟩
    · obtain ⟨e1, e2⟩ := sun_num x 100 (.inr (.inr rfl))
      exact ⟨rfl, _, _, _, _, _, _, _, rfl, F₃, News.nil, rfl, rfl, e1, e2, h7.1, h7.2⟩
  rintro s' ⟨h₂, tk₂, m₂, n, u, k, u', rfl, F₂, N₂, mf, mw, hn1, hn2, hk1, hk2⟩
  refine C_next (SunMid3 s.heap L s n k) (wpC_of ?_) ?_
  · show wpAny _ _ _ _ _ _
    k_fold
    walk_at "mine steps"
    all_goals
      (with_reducible rename Fr _ _ _ _ => F₃)
      (rename (k = _) => hk)
      subst hk
      refine' ⟨rfl, _, _, _, _, _, _, _, rfl, F₃, News.nil, ?q1, ?q2, ?q3, ?q4⟩
      (case q1 => exact mf)
      (case q2 => exact mw)
      (case q3 => exact rfl)
      (case q4 => decide +kernel)
  rintro s' ⟨h₃, tk₃, m₃, u₃, u₃', b, ub, rfl, F₃, N₃, mf₃, mw₃, mb₃, hb⟩
  obtain ⟨n, rfl⟩ := Int.eq_ofNat_of_zero_le (Int.le_trans (by decide) hn1)
  obtain ⟨k, rfl⟩ := Int.eq_ofNat_of_zero_le hk1
  refine C_next (SunMid4 s.heap L s n k) (sun_4 T X hroom hu rfl F₃ ⟨h₃, tk₃, rfl⟩ mf₃ mw₃ mb₃ hb hk1 hk2) ?_
  rintro s' ⟨h₄, tk₄, m₄, u₄, u₄', b₄, ub₄, lr, us, nn, fz, rfl, F₄, N₄, mf₄, mw₄, mb₄, hb₄, mr₄, ht, hus⟩
  refine C_last (SunOut s.heap s n k) (sun_5 T X hroom hu rfl F₄ ⟨h₄, tk₄, rfl⟩ N₄ mf₄ mw₄ mb₄ mr₄ hb₄ ht hus (by omega) (by omega) (by omega)) ?_
  rintro v s' ⟨h₅, tk₅, rfl, st, rd⟩
  exact h v h₅ tk₅ n k (by omega) (by omega) (by omega) st rd
end Sun

section Ls
open TI
/-- the law's state: frame, cells, what is frozen, what still turns -/
structure Ls (h₀ : Heap) (L : Addr) (cs : List (Str × Addr)) (hf h : Heap) (m cm : Str → Option Value) (led : List (Addr × Obj)) : Prop where
  F : Fr h₀ L h m
  C : Cl L cs h cm
  U : (cs.map (·.1)).Nodup
  K : hf.StaysIn h
  N : ∀ p ∈ led, h.get? p.1 = some p.2 ∧ p.1 ≠ L ∧ hf.get? p.1 = none ∧ ∀ n c, (n, c) ∈ cs → c ≠ p.1
  D : (led.map (·.1)).Nodup
  O : h₀.StaysIn hf
  aL : hf.get? L = none
  aC : ∀ n c, (n, c) ∈ cs → hf.get? c = none
noncomputable def frz (h : Heap) (L : Addr) (cs : List (Str × Addr)) (led : List (Addr × Obj)) : Heap := gone h (L :: (cs.map (·.2) ++ led.map (·.1)))
section
variable {h₀ hf h h' : Heap} {L a : Addr} {cs : List (Str × Addr)} {m m' cm : Str → Option Value} {led led' l1 l2 : List (Addr × Obj)} {o o' oL : Obj} {ex : List Addr}
theorem Ls.cell (S : Ls h₀ L cs hf h m cm led) {n : Str} {c : Addr} (hc : (n, c) ∈ cs) : h.IsCell c (cm n) := S.C.cell n c (lookup_of_mem_nodup S.U hc)
theorem Ls.live (S : Ls h₀ L cs hf h m cm led) (ha : h.get? a = none) : a ≠ L ∧ hf.get? a = none ∧ (∀ n c, (n, c) ∈ cs → c ≠ a) ∧ a ∉ led.map (·.1) := by
  refine ⟨fun e => ?_, ?_, fun n c hc e => ?_, fun hm => ?_⟩
  · obtain ⟨o, _, _, ho, _⟩ := S.F.ns
    rw [← e, ha] at ho; cases ho
  · cases e : hf.get? a with
    | none => rfl
    | some x => rw [S.K _ _ e] at ha; cases ha
  · obtain ⟨o, ho, _⟩ := S.cell hc
    rw [e, ha] at ho; cases ho
  · obtain ⟨p, hp, e⟩ := List.mem_map.mp hm
    have := (S.N p hp).1
    rw [show p.1 = a from e, ha] at this; cases this
theorem Ls.keeps (S : Ls h₀ L cs hf h m cm led) (k : h.StaysIn h') : Ls h₀ L cs hf h' m cm led :=
  ⟨S.F.keeps k, S.C.keeps k, S.U, fun b o e => k _ _ (S.K b o e), fun p hp => ⟨k _ _ (S.N p hp).1, (S.N p hp).2⟩, S.D, S.O, S.aL, S.aC⟩
theorem Ls.new (S : Ls h₀ L cs hf h m cm led) (k : h.StaysIn h') (ha : h.get? a = none) (ho : h'.get? a = some o) : Ls h₀ L cs hf h' m cm ((a, o) :: led) := by
  obtain ⟨x1, x2, x3, x4⟩ := S.live ha
  have S' := S.keeps k
  refine ⟨S'.F, S'.C, S'.U, S'.K, fun p hp => ?_, ?_, S'.O, S'.aL, S'.aC⟩
  · rcases List.mem_cons.mp hp with rfl | hp
    · exact ⟨ho, x1, x2, x3⟩
    · exact S'.N p hp
  · rw [List.map_cons, List.nodup_cons]
    exact ⟨x4, S.D⟩
theorem Ls.sub (S : Ls h₀ L cs hf h m cm led) (hs : led'.Sublist led) : Ls h₀ L cs hf h m cm led' :=
  ⟨S.F, S.C, S.U, S.K, fun p hp => S.N p (hs.subset hp), (hs.map _).nodup S.D, S.O, S.aL, S.aC⟩
theorem Ls.drop1 (S : Ls h₀ L cs hf h m cm ((a, o) :: led)) : Ls h₀ L cs hf h m cm led := S.sub (List.sublist_cons_self _ _)
theorem Ls.upd (S : Ls h₀ L cs hf h m cm (l1 ++ (a, o) :: l2)) (k : ∀ b x, b ≠ a → h.get? b = some x → h'.get? b = some x) (ho : h'.get? a = some o') : Ls h₀ L cs hf h' m cm (l1 ++ (a, o') :: l2) := by
  obtain ⟨n1, n2, n3, n4⟩ := S.N (a, o) (List.mem_append_right _ List.mem_cons_self)
  have hk : hf.StaysIn h' := fun b x e => k b x (fun q => by rw [q, n3] at e; cases e) (S.K b x e)
  have hD : ((l1 ++ (a, o') :: l2).map (·.1)) = ((l1 ++ (a, o) :: l2).map (·.1)) := by simp
  refine ⟨⟨S.F.ns.at' fun x e => k _ x (Ne.symm n2) e, fun b x e => hk b x (S.O b x e), S.F.above⟩, ⟨fun n c e => ?_, S.C.apart, S.C.above⟩, S.U, hk, fun p hp => ?_, by rw [hD]; exact S.D, S.O, S.aL, S.aC⟩
  · obtain ⟨x, hx, hd⟩ := S.C.cell n c e
    exact ⟨x, k _ _ (n4 n c (mem_of_lookup e)) hx, hd⟩
  · have hnd := S.D
    rw [List.map_append, List.map_cons, List.nodup_append] at hnd
    obtain ⟨d1, d2, d3⟩ := hnd
    rw [List.nodup_cons] at d2
    rcases List.mem_append.mp hp with hp | hp
    · obtain ⟨q1, q2⟩ := S.N p (List.mem_append_left _ hp)
      exact ⟨k _ _ (fun e => d3 _ (List.mem_map.mpr ⟨p, hp, e⟩) _ List.mem_cons_self rfl) q1, q2⟩
    · rcases List.mem_cons.mp hp with rfl | hp
      · exact ⟨ho, n2, n3, n4⟩
      · obtain ⟨q1, q2⟩ := S.N p (List.mem_append_right _ (List.mem_cons_of_mem _ hp))
        exact ⟨k _ _ (fun e => d2.1 (List.mem_map.mpr ⟨p, hp, e⟩)) q1, q2⟩
theorem Ls.upd0 (S : Ls h₀ L cs hf h m cm ((a, o) :: led)) (k : ∀ b x, b ≠ a → h.get? b = some x → h'.get? b = some x) (ho : h'.get? a = some o') : Ls h₀ L cs hf h' m cm ((a, o') :: led) := S.upd (l1 := []) k ho
theorem Ls.butL (S : Ls h₀ L cs hf h m cm led) (k : ∀ b x, b ≠ L → h.get? b = some x → h'.get? b = some x) (hn : h'.Ns L m') : Ls h₀ L cs hf h' m' cm led := by
  have hk : hf.StaysIn h' := fun b x e => k b x (fun q => by rw [q, S.aL] at e; cases e) (S.K b x e)
  refine ⟨⟨hn, fun b x e => hk b x (S.O b x e), S.F.above⟩, ⟨fun n c e => ?_, S.C.apart, S.C.above⟩, S.U, hk, fun p hp => ?_, S.D, S.O, S.aL, S.aC⟩
  · obtain ⟨x, hx, hd⟩ := S.C.cell n c e
    exact ⟨x, k _ _ (Nat.ne_of_gt (S.C.above n c (mem_of_lookup e))) hx, hd⟩
  · obtain ⟨q1, q2⟩ := S.N p hp
    exact ⟨k _ _ q2.1 q1, q2⟩
theorem Ls.setL (S : Ls h₀ L cs hf h m cm led) (hn : h'.Ns L m') (hs : Heap.SameBut L h h') : Ls h₀ L cs hf h' m' cm led := S.butL (fun b x hb e => (hs.2 b hb).trans e) hn
theorem Ls.setC (S : Ls h₀ L cs hf h m cm led) {x : Str} {c : Addr} {v : Value} (hc : cs.lookup x = some c) (hv : h'.IsCell c (some v)) (hs : Heap.SameBut c h h') : Ls h₀ L cs hf h' m (fun y => if y = x then some v else cm y) led := by
  have hm := mem_of_lookup hc
  have hLc := S.C.above x c hm
  have hk : hf.StaysIn h' := fun b y e => (hs.2 b (fun q => by rw [q, S.aC x c hm] at e; cases e)).trans (S.K b y e)
  refine ⟨⟨S.F.ns.sameBut hs (Nat.ne_of_lt hLc), fun b y e => hk b y (S.O b y e), S.F.above⟩, ⟨fun n c' e => ?_, S.C.apart, S.C.above⟩, S.U, hk, fun p hp => ?_, S.D, S.O, S.aL, S.aC⟩
  · by_cases hn : n = x
    · subst hn; rw [hc] at e; cases e; simpa using hv
    · have hcc : c' ≠ c := fun q => hn (name_of_addr S.C.apart (mem_of_lookup e) (q ▸ hm))
      simpa [hn] using (S.C.cell n c' e).sameBut hs hcc
  · obtain ⟨q1, q2⟩ := S.N p hp
    exact ⟨(hs.2 _ (fun e => q2.2.2 x c hm e.symm)).trans q1, q2⟩
theorem frz_get {b : Addr} (e : h.get? b = some o) (h1 : b ≠ L) (h2 : ∀ n c, (n, c) ∈ cs → c ≠ b) (h3 : b ∉ led.map (·.1)) : (frz h L cs led).get? b = some o := by
  refine (gone_get fun hm => ?_).trans e
  rcases List.mem_cons.mp hm with q | hm
  · exact h1 q
  · rcases List.mem_append.mp hm with hm | hm
    · obtain ⟨⟨n, c⟩, hp, q⟩ := List.mem_map.mp hm
      exact h2 n c hp q
    · exact h3 hm
theorem Ls.frzS (S : Ls h₀ L cs hf h m cm led) : hf.StaysIn (frz h L cs led) := fun b x e =>
  frz_get (S.K b x e) (fun q => by rw [q, S.aL] at e; cases e) (fun n c hc q => by rw [← q, S.aC n c hc] at e; cases e) fun hm => by
    obtain ⟨p, hp, q⟩ := List.mem_map.mp hm
    have := (S.N p hp).2.2.1
    rw [show p.1 = b from q, e] at this; cases this
theorem Ls.frz (S : Ls h₀ L cs hf h m cm led) : Ls h₀ L cs (frz h L cs led) h m cm led :=
  ⟨S.F, S.C, S.U, fun b x e => (gone_some e).2, fun p hp => ⟨(S.N p hp).1, (S.N p hp).2.1, gone_none (List.mem_cons_of_mem _ (List.mem_append_right _ (List.mem_map.mpr ⟨p, hp, rfl⟩))), (S.N p hp).2.2.2⟩, S.D,
    fun b x e => S.frzS b x (S.O b x e), gone_none List.mem_cons_self, fun n c hc => gone_none (List.mem_cons_of_mem _ (List.mem_append_left _ (List.mem_map.mpr ⟨(n, c), hc, rfl⟩)))⟩
/-- what is new behind a state is frozen with the rest -/
theorem Ls.frz_new {g : Heap} (S : Ls h₀ L cs hf h m cm led) (e : g.get? a = some o) (n : h.get? a = none) : (Mine.frz g L cs led).get? a = some o := by
  obtain ⟨x1, _, x3, x4⟩ := S.live n
  exact frz_get e x1 x3 x4
theorem Ls.frz_part {g : Heap} (S : Ls h₀ L cs hf h m cm led) : (newPart h g).StaysIn (Mine.frz g L cs led) := fun b x e => by
  obtain ⟨e1, e2⟩ := new_some e
  exact S.frz_new e1 e2
theorem Ls.base (S : Ls h₀ L cs hf h m cm led) (hex : ∀ a ∈ ex, hf.get? a = none) : hf.StaysIn (gone h (L :: ex)) := fun b x e => by
  refine (gone_get fun hm => ?_).trans (S.K b x e)
  rcases List.mem_cons.mp hm with q | hm
  · rw [q, S.aL] at e; cases e
  · rw [hex b hm] at e; cases e
theorem Ls.out (S : Ls h₀ L cs hf h m cm led) {ev : Env} (hk : ev.scope.kind = .function) (hfr : ev.frame = some L) (ex : List Addr) :
    ∃ oL, Rt (callerA.deeper ev) (gone h (L :: ex)) h [ev] [(L, oL)] ∧ h.get? L = some oL := by
  obtain ⟨oL, es, ep, hL, hLd, _⟩ := S.F.ns
  refine ⟨oL, ⟨rfl, ⟨by rw [hk]; decide, hfr, ⟨es, ep, hLd⟩, trivial⟩, fun b o e => (gone_some e).2, fun p hp => ?_, Nat.le_of_eq (gone_size _ _)⟩, hL⟩
  rw [List.mem_singleton.mp hp]
  exact ⟨hL, gone_none List.mem_cons_self⟩
theorem ret_L {hb : Heap} (R : Ret hb [(L, oL)] h') : ∃ sl, h'.get? L = some { oL with slots := sl } := by
  obtain ⟨_, fr, SU, ht⟩ := R
  cases fr with
  | nil => exact False.elim SU
  | cons q fr =>
    obtain ⟨q1, ⟨sl, q2⟩, _⟩ := SU
    have hq := ht q List.mem_cons_self
    rw [show q.1 = L from q1, show q.2 = { oL with slots := sl } from q2] at hq
    exact ⟨sl, hq⟩
theorem Ls.nsL (S : Ls h₀ L cs hf h m cm led) (hL : h.get? L = some oL) {sl : Array (Option Value)} (e : h'.get? L = some { oL with slots := sl }) : h'.Ns L m := by
  obtain ⟨o, es, ep, ho, r⟩ := S.F.ns
  rw [hL] at ho
  obtain rfl := Option.some.inj ho
  exact ⟨_, es, ep, e, r⟩
theorem Ls.back (S : Ls h₀ L cs hf h m cm led) (hL : h.get? L = some oL) (R : Ret (gone h [L]) [(L, oL)] h') : Ls h₀ L cs hf h' m cm led := by
  obtain ⟨sl, e⟩ := ret_L R
  exact S.butL (fun b x hb q => R.1 b x ((gone_get fun hm => hb (List.mem_singleton.mp hm)).trans q)) (S.nsL hL e)
theorem Ls.back1 (S : Ls h₀ L cs hf h m cm (l1 ++ (a, o) :: l2)) (hL : h.get? L = some oL) (R : Ret (gone h [L, a]) [(L, oL)] h') (ho : h'.get? a = some o') : Ls h₀ L cs hf h' m cm (l1 ++ (a, o') :: l2) := by
  obtain ⟨sl, e⟩ := ret_L R
  obtain ⟨n1, n2, n3, n4⟩ := S.N (a, o) (List.mem_append_right _ List.mem_cons_self)
  have k : ∀ b x, b ≠ L → b ≠ a → h.get? b = some x → h'.get? b = some x := fun b x h1 h2 q => R.1 b x ((gone_get fun hm => by
    rcases List.mem_cons.mp hm with q | hm
    · exact h1 q
    · exact h2 (List.mem_singleton.mp hm)).trans q)
  have hk : hf.StaysIn h' := fun b x e => k b x (fun q => by rw [q, S.aL] at e; cases e) (fun q => by rw [q, n3] at e; cases e) (S.K b x e)
  have hD : ((l1 ++ (a, o') :: l2).map (·.1)) = ((l1 ++ (a, o) :: l2).map (·.1)) := by simp
  refine ⟨⟨S.nsL hL e, fun b x e => hk b x (S.O b x e), S.F.above⟩, ⟨fun n c e => ?_, S.C.apart, S.C.above⟩, S.U, hk, fun p hp => ?_, by rw [hD]; exact S.D, S.O, S.aL, S.aC⟩
  · obtain ⟨x, hx, hd⟩ := S.C.cell n c e
    exact ⟨x, k _ _ (Nat.ne_of_gt (S.C.above n c (mem_of_lookup e))) (n4 n c (mem_of_lookup e)) hx, hd⟩
  · have hnd := S.D
    rw [List.map_append, List.map_cons, List.nodup_append] at hnd
    obtain ⟨d1, d2, d3⟩ := hnd
    rw [List.nodup_cons] at d2
    rcases List.mem_append.mp hp with hp | hp
    · obtain ⟨q1, q2⟩ := S.N p (List.mem_append_left _ hp)
      exact ⟨k _ _ q2.1 (fun e => d3 _ (List.mem_map.mpr ⟨p, hp, e⟩) _ List.mem_cons_self rfl) q1, q2⟩
    · rcases List.mem_cons.mp hp with rfl | hp
      · exact ⟨ho, n2, n3, n4⟩
      · obtain ⟨q1, q2⟩ := S.N p (List.mem_append_right _ (List.mem_cons_of_mem _ hp))
        exact ⟨k _ _ q2.1 (fun e => d2.1 (List.mem_map.mpr ⟨p, hp, e⟩)) q1, q2⟩
end
end Ls

section Cmp
variable {prog : Program} {w : World} {A : Around} {E : Value → Shared → Prop} {s : Shared} {env : Env}
abbrev no : Value → Shared → Prop := fun _ _ => False
noncomputable def testsOf (ifs : List PySem.Expr) (env : Env) : Sem Bool := forIn ifs true fun c r => if r = true then do let ok ← isTrue c env (eval c env); pure (ForInStep.yield ok) else pure (ForInStep.yield r)
theorem T_nil {Q : Bool → Shared → Prop} (h : Q true s) : wpC (model prog w) A (testsOf [] env) Q E s := wpC_of (wpAny_tests_nil h)
theorem T_one {c : PySem.Expr} {Q : Bool → Shared → Prop} (h : wpC (model prog w) A (isTrue c env (eval c env)) Q E s) : wpC (model prog w) A (testsOf [c] env) Q E s := by
  unfold testsOf
  simp only [List.forIn_cons, List.forIn_nil, if_true]
  exact wpC_bind (wpC_bind (wpC_mono h (fun b s' hb => wpC_pure (wpC_pure hb)) fun _ _ x => x))

theorem LC_loop {elt target iter : PySem.Expr} {ifs : List PySem.Expr} {scope : Scope} {pos : Pos} {it acc : Value} {R : Result → Shared → Prop} (I : Nat → Shared → Prop)
    (turn : ∀ n s, I n s → wpAny (model prog w) A (pyNext it) (fun r s₁ => match r with
      | none => R (.ok .next) s₁
      | some v => wpAny (model prog w) A (letOwnedTupleGo target it v) (fun _ s₀ => wpAny (model prog w) A (assign target env v) (fun _ s₂ =>
          wpC (model prog w) A (testsOf ifs env) (fun ok s₃ =>
            if ok = true then wpC (model prog w) A (eval elt env) (fun x s₄ =>
              wpAny (model prog w) A (call (.builtin "list.append") [acc, x]) (fun _ s₅ => ∃ m, m < n ∧ I m s₅) no s₄) no s₃
            else ∃ m, m < n ∧ I m s₃) no s₂) no s₀) no s₁) no s)
    (n : Nat) (h : I n s) : codeC (model prog w) A (.compLoop (.ListComp elt [⟨target, iter, ifs, 0⟩] scope pos) 0 it acc env) R s := by
  refine codeC_loop rfl I (fun n s hI => ?_) n h
  show wpC _ A ((compTurn (.ListComp elt [⟨target, iter, ifs, 0⟩] scope pos) 0 it acc env).onRaise (fun x => do noteFrame x env; theTreesLotGoes x)) _ _ s
  refine wpC_onRaise (wpC_mono (E := no) ?_ (fun _ _ q => q) fun _ _ q => q.elim)
  rw [compTurn_list]
  refine wpC_then (wpAny_standAt (wpC_then (wpAny_mono (turn n s hI) (fun r s₁ h₁ => ?_) fun _ _ h' => h')))
  cases r with
  | none => exact wpC_pure h₁
  | some v =>
    refine wpC_then (wpAny_mono h₁ (fun _ s₀ h₀ => ?_) fun _ _ h' => h')
    refine wpC_then (wpAny_mono h₀ (fun _ s₂ h₂ => wpC_bind (wpC_mono h₂ (fun ok s₃ h₃ => ?_) fun _ _ h' => h')) fun _ _ h' => h')
    cases ok with
    | false => exact wpC_pure ⟨rfl, h₃⟩
    | true =>
      exact wpC_bind (wpC_bind (wpC_mono h₃ (fun x s₄ h₄ => wpC_then (wpAny_mono h₄ (fun _ s₅ h₅ => wpC_pure (wpC_pure ⟨rfl, h₅⟩)) fun _ _ h' => h')) fun _ _ h' => h'))
theorem DC_loop {kx vx target iter : PySem.Expr} {ifs : List PySem.Expr} {scope : Scope} {pos : Pos} {it : Value} {D : Addr} {R : Result → Shared → Prop} (I : Nat → Shared → Prop)
    (turn : ∀ n s, I n s → wpAny (model prog w) A (pyNext it) (fun r s₁ => match r with
      | none => R (.ok .next) s₁
      | some v => wpAny (model prog w) A (letOwnedTupleGo target it v) (fun _ s₀ => wpAny (model prog w) A (assign target env v) (fun _ s₂ =>
          wpC (model prog w) A (testsOf ifs env) (fun ok s₃ =>
            if ok = true then wpC (model prog w) A (eval kx env) (fun kv s₄ => wpC (model prog w) A (eval vx env) (fun vv s₅ =>
              wpAny (model prog w) A (dictSet D kv vv) (fun _ s₆ => ∃ m, m < n ∧ I m s₆) no s₅) no s₄) no s₃
            else ∃ m, m < n ∧ I m s₃) no s₂) no s₀) no s₁) no s)
    (n : Nat) (h : I n s) : codeC (model prog w) A (.compLoop (.DictComp kx vx [⟨target, iter, ifs, 0⟩] scope pos) 0 it (.ref D) env) R s := by
  refine codeC_loop rfl I (fun n s hI => ?_) n h
  show wpC _ A ((compTurn (.DictComp kx vx [⟨target, iter, ifs, 0⟩] scope pos) 0 it (.ref D) env).onRaise (fun x => do noteFrame x env; theTreesLotGoes x)) _ _ s
  refine wpC_onRaise (wpC_mono (E := no) ?_ (fun _ _ q => q) fun _ _ q => q.elim)
  rw [compTurn_dict]
  refine wpC_then (wpAny_standAt (wpC_then (wpAny_mono (turn n s hI) (fun r s₁ h₁ => ?_) fun _ _ h' => h')))
  cases r with
  | none => exact wpC_pure h₁
  | some v =>
    refine wpC_then (wpAny_mono h₁ (fun _ s₀ h₀ => ?_) fun _ _ h' => h')
    refine wpC_then (wpAny_mono h₀ (fun _ s₂ h₂ => wpC_bind (wpC_mono h₂ (fun ok s₃ h₃ => ?_) fun _ _ h' => h')) fun _ _ h' => h')
    cases ok with
    | false => exact wpC_pure ⟨rfl, h₃⟩
    | true =>
      exact wpC_bind (wpC_bind (wpC_mono h₃ (fun kv s₄ h₄ => wpC_bind (wpC_holding (wpC_mono h₄ (fun vv s₅ h₅ => wpC_then (wpAny_standAt (wpC_holding (wpC_of (wpAny_mono h₅ (fun _ s₆ h₆ => wpC_pure ⟨rfl, h₆⟩) fun _ _ h' => h'))))) fun _ _ h' => h'))) fun _ _ h' => h'))
theorem CS_start {e : PySem.Expr} {g : Comprehension} {gs : List Comprehension} {it acc : Value} {R : Result → Shared → Prop} (hcl : clausesOf e = g :: gs) (ha : (g.is_async != 0) = false) (hfr : (Code.compStart e 0 it acc env).isFrame = false) (hw : A.under (.compStart e 0 it acc env) = A) (hq : (Code.compLoop e 0 it acc env).quiet = true)
    (hq' : ∀ it', (Code.compLoop e 0 it' acc env).quiet = true)
    (h0 : codeC (model prog w) A (.compLoop e 0 it acc env) R s)
    (h : wpAny (model prog w) A (pyIter it) (fun it' s' => codeC (model prog w) A (.compLoop e 0 it' acc env) R s') no s) : codeC (model prog w) A (.compStart e 0 it acc env) R s := by
  refine codeC_of_tree ?_
  rw [hw]
  show wpC _ A (if (Code.compStart e 0 it acc env).isFrame then (compStart e 0 it acc env).onRaise (leaving env) else (compStart e 0 it acc env).onRaise (fun x => do noteFrame x env; standAt theWindowsPlace)) _ _ s
  rw [hfr, if_neg Bool.false_ne_true]
  refine wpC_onRaise (wpC_mono (E := no) ?_ (fun _ _ q => q) fun _ _ q => q.elim)
  unfold compStart
  rw [hcl]
  simp only [List.getElem?_cons_zero, Option.elim_some, ha, Bool.false_eq_true, if_false]
  show wpC _ A (ask >>= _) _ _ s
  refine wpC_then (wpAny_askSetting ?_)
  split
  · exact wpC_then (wpAny_pure (wpC_pure ⟨hq, h0⟩))
  · exact wpC_then (wpAny_rule (wpC_then (wpAny_standAt (wpC_then (wpAny_mono h (fun it' s' h' => wpC_pure ⟨hq' it', h'⟩) fun _ _ x => x)))))
noncomputable def compPostC (M : Model) (A : Around) (use : Option (Value → Sem Unit)) (Q : Value → Shared → Prop) (acc : Value) (C : Addr) (r : Result) (s' : Shared) : Prop :=
  match r, use with
  | .ok _, none => ∃ m, s'.heap.Ns C m ∧ ∀ h', Heap.SameBut C s'.heap h' → Q acc { s' with heap := h' }
  | .ok _, some u => wpAny M A (u acc) (fun _ s'' => ∃ m, s''.heap.Ns C m ∧ ∀ h', Heap.SameBut C s''.heap h' → Q .none { s'' with heap := h' }) no s'
  | .error _, _ => False
theorem C_comprehension {M : Model} {e : PySem.Expr} {scope : Scope} {pos : Pos} {newAcc first : Sem Value} {g : Comprehension} {gs : List Comprehension} {cl : List (Str × Addr)} {use : Option (Value → Sem Unit)}
    {Q : Value → Shared → Prop}
    (hcl : clausesOf e = g :: gs) (hs : ∀ x, foldedSetIterable g.iter env x = pure x) (hclos : closureFor scope env = pure cl)
    (hkind : scope.kind = .function) (hnames : ∀ x ∈ scope.names, x.2 = .local → scope.names.lookup x.1 = some .local)
    (h : wpC M A first (fun x s₁ => wpAny M A (pyIter x) (fun it s₂ => wpAny M A newAcc (fun acc s₃ =>
      wpAny M A (newFunctionEnv scope env.globals cl [] env.qual none .none (some env)) (fun cenv s₄ =>
        codeC M A (.compStart e 0 it acc { cenv with scope := relabel scope env }) (compPostC M A use Q acc cenv.locals) s₄) no s₃) no s₂) no s₁) no s) :
    wpC M A (comprehension e scope env pos newAcc false first use) Q E s := by
  refine wpC_mono (E := no) ?_ (fun _ _ q => q) fun _ _ q => q.elim
  unfold comprehension
  rw [hclos, hcl]
  refine wpC_bind (wpC_mono h (fun x s₁ h₁ => ?_) fun _ _ h' => h')
  refine wpC_then (wpAny_standAt (wpC_then (wpAny_of_eq (hs x) (wpC_then (wpAny_holding (wpAny_mono h₁ (fun it s₂ h₂ => ?_) fun _ _ h' => h'))))))
  have tail : ∀ {t : Sem Value}, wpC M A t Q no s₂ → wpC M A (do
      if use.isSome then standAt e.pos
      t) Q no s₂ := fun ht => by
    cases use with
    | none => exact ht
    | some u => exact wpC_then (wpAny_standAt ht)
  refine tail ?_
  refine wpC_then (wpAny_mono h₂ (fun acc s₃ h₃ => wpC_then (wpAny_pure (wpC_then (wpAny_mono h₃ (fun cenv s₄ h₄ => ?_) fun _ _ h' => h')))) fun _ _ h' => h')
  dsimp only
  have hv : ∀ x ∈ (scope.names.filter fun x => (x.2 == .local || x.2 == .cell) && x.1 != (".0" : Str)).reverse, x.2 = .local →
      Env.kindOf { cenv with scope := relabel scope env } x.1 = some .local := fun x hx hl => lookup_relabel_local (hnames x (List.mem_filter.mp (List.mem_reverse.mp hx)).1 hl)
  have hv' : ∀ x ∈ (scope.names.filter fun x => (x.2 == .local || x.2 == .cell) && x.1 != (".0" : Str)).reverse.drop 1 ++ (scope.names.filter fun x => (x.2 == .local || x.2 == .cell) && x.1 != (".0" : Str)).reverse.take 1,
      x.2 = .local → Env.kindOf { cenv with scope := relabel scope env } x.1 = some .local := fun x hx hl => by
    rcases List.mem_append.mp hx with h1 | h1
    · exact hv x (List.mem_of_mem_drop h1) hl
    · exact hv x (List.mem_of_mem_take h1) hl
  refine wpC_holding (wpC_bind (wpC_attempt (wpC_holding (wpC_run (codeC_mono h₄ fun r s' hr => ?_)))))
  cases r with
  | ok f =>
    cases use with
    | none =>
      obtain ⟨m, hn, hr⟩ := hr
      exact wpC_then (wpAny_holding (wpAny_comp_letGo (cenv := { cenv with scope := relabel scope env }) hkind _ s' m hv hn fun h' m' _ hs' => wpC_pure (hr h' hs')))
    | some u =>
      refine wpC_then (wpAny_rule (wpC_then (wpAny_holding (wpAny_mono hr (fun _ s'' hr' => ?_) fun _ _ h' => h'))))
      obtain ⟨m, hn, hr'⟩ := hr'
      exact wpC_then (wpAny_comp_letGo (cenv := { cenv with scope := relabel scope env }) hkind _ s'' m hv' hn fun h' m' _ hs' => wpC_pure (hr' h' hs'))
  | error x => exact hr.elim
end Cmp

section Blk
open TI LCg
section
variable {prog : Program} {w : World} {A : Around} {env : Env} {h₀ hf : Heap} {L : Addr} {cs : List (Str × Addr)} {m cm : Str → Option Value} {led : List (Addr × Obj)}
/-- a comprehension's target takes an item -/
noncomputable def AsgOk (prog : Program) (w : World) (A : Around) (cenv : Env) (target : PySem.Expr) (I : Addr) (P : Nat → Value → Prop) (St : Nat → Heap → Prop) (hf : Heap) (pm : Nat → Value → (Str → Option Value) → Prop) : Prop :=
  ∀ i v (s : Shared) m₁ (Q : Shared → Prop), P i v → St (i + 1) s.heap → hf.StaysIn s.heap → s.heap.Ns cenv.locals m₁ →
    (∀ h' tk m₂, (∀ b o, b ≠ cenv.locals → s.heap.get? b = some o → h'.get? b = some o) → h'.Ns cenv.locals m₂ → pm i v m₂ → Q { s with heap := h', toks := tk }) →
    wpAny (model prog w) A (letOwnedTupleGo target (.ref I) v) (fun _ s₀ => wpAny (model prog w) A (assign target cenv v) (fun _ s₂ => Q s₂) no s₀) no s
noncomputable def Aft (h₀ : Heap) (L : Addr) (cs : List (Str × Addr)) (hf₁ : Heap) (m cm : Str → Option Value) (led3 : List (Addr × Obj)) (s₂ : Shared) (J : List Value → Heap → Prop) (ys : List Value) (s' : Shared) : Prop :=
  ∃ h tk hf₂, s' = { s₂ with heap := h, toks := tk } ∧ hf₁.StaysIn hf₂ ∧ J ys hf₂ ∧ Ls h₀ L cs hf₂ h m cm led3

theorem LC_block {elt target iter : PySem.Expr} {ifs : List PySem.Expr} {scope : Scope} {cl : List (Str × Addr)} {pos : Pos} {s₂ : Shared} {I : Addr} {oI₀ : Obj} {fp : List Addr} {n : Nat} {P : Nat → Value → Prop} {St : Nat → Heap → Prop} {pm : Nat → Value → (Str → Option Value) → Prop}
    {RR : Value → Addr → Result → Shared → Prop} (J : Nat → List Value → Heap → Prop)
    (W : Walks prog w A I fp [I] n P St) (hsz : n ≤ 1000) (hIo : ∀ i h, St i h → ∃ o, h.get? I = some o)
    (hSt : ∀ i h h' o, St i h → h.get? I = some o → h'.get? I = some o → hf.StaysIn h' → St i h')
    (hcell : ∀ y ∈ scope.names, y.2 ≠ .cell) (hkind : scope.kind = .function)
    (hst : St 0 s₂.heap) (hfp : ∀ b ∈ fp, b < s₂.heap.objs.size) (S : Ls h₀ L cs hf s₂.heap m cm ((I, oI₀) :: led)) (j0 : J 0 [] hf)
    (asg : ∀ C, AsgOk prog w A (compEnvC scope cl C env) target I P St hf pm)
    (turn : ∀ i v ys hf₁ h tk oI C oC D m₂, P i v → i < n → hf.StaysIn hf₁ → J i ys hf₁ → Ls h₀ L cs hf₁ h m cm ((I, oI) :: (C, oC) :: (D, lst ys) :: led) → h.Ns C m₂ → pm i v m₂ →
      wpC (model prog w) A (testsOf ifs (compEnvC scope cl C env)) (fun ok s₃ =>
        if ok = true then wpC (model prog w) A (eval elt (compEnvC scope cl C env)) (fun y s₄ => Aft h₀ L cs hf₁ m cm ((I, oI) :: (C, oC) :: (D, lst ys) :: led) s₂ (J (i + 1)) (ys ++ [y]) s₄) no s₃
        else Aft h₀ L cs hf₁ m cm ((I, oI) :: (C, oC) :: (D, lst ys) :: led) s₂ (J (i + 1)) ys s₃) no { s₂ with heap := h, toks := tk })
    (hRR : ∀ D C h tk m' ys hf₁ oC, hf.StaysIn hf₁ → J n ys hf₁ → Ls h₀ L cs hf₁ h m cm ((C, oC) :: (D, lst ys) :: led) → h.Ns C m' → RR (.ref D) C (.ok .next) { s₂ with heap := h, toks := tk }) :
    wpAny (model prog w) A (newList []) (fun acc s₃ => wpAny (model prog w) A (newFunctionEnv scope env.globals cl [] env.qual none .none (some env)) (fun cenv s₄ =>
      codeC (model prog w) A (.compStart (.ListComp elt [⟨target, iter, ifs, 0⟩] scope pos) 0 (.ref I) acc { cenv with scope := relabel scope env }) (RR acc cenv.locals) s₄) no s₃) no s₂ := by
  refine wpAny_newObj_type (wpAny_newFunctionEnv hcell (by intro y hy; simp at hy) (fun h₁ hns₁ hsb₁ => ?_) hkind)
  dsimp only at hns₁ hsb₁ ⊢
  generalize hH2 : s₂.heap.push { cls := .type "list", dict := none, data := .seq ([] : List Value).toArray } = H2 at hns₁ hsb₁ ⊢
  have hC : H2.objs.size = s₂.heap.objs.size + 1 := by rw [← hH2, Heap.size_push]
  have hDC : s₂.heap.objs.size ≠ H2.objs.size := by rw [hC]; exact Nat.ne_of_lt (Nat.lt_succ_self _)
  have below : ∀ b, b < s₂.heap.objs.size → b ≠ H2.objs.size ∧ b ≠ s₂.heap.objs.size := fun b hb => ⟨by rw [hC]; exact Nat.ne_of_lt (Nat.lt_succ_of_lt hb), Nat.ne_of_lt hb⟩
  have fresh : ∀ (g : Heap) a, g.objs.size ≤ a → g.get? a = none := fun g a ha => by
    cases e : g.get? a with
    | none => rfl
    | some o' => exact absurd (Heap.lt_size e) (Nat.not_lt.mpr ha)
  have st2 : s₂.heap.StaysIn H2 := fun b o e => hH2 ▸ Heap.get?_push_of_some _ e
  have hD2 : H2.get? s₂.heap.objs.size = some (lst []) := by rw [← hH2]; exact Heap.get?_push_size _ rfl
  have S2 : Ls h₀ L cs hf H2 m cm ((s₂.heap.objs.size, lst []) :: (I, oI₀) :: led) := S.new st2 (fresh _ _ (Nat.le_refl _)) hD2
  have st1 : H2.StaysIn h₁ := fun b o e => hsb₁.extBut b o (Nat.ne_of_lt (Heap.lt_size e)) (Heap.get?_push_of_some _ e)
  obtain ⟨oC₀, hoC₀, hnC₀⟩ := ns_obj hns₁
  have S1 : Ls h₀ L cs hf h₁ m cm ((H2.objs.size, oC₀) :: (s₂.heap.objs.size, lst []) :: (I, oI₀) :: led) := S2.new st1 (fresh _ _ (Nat.le_refl _)) hoC₀
  have hst₁ : St 0 h₁ := W.frame _ _ _ hst fun b _ o e => st1 _ _ (st2 _ _ e)
  have hCI : I ≠ H2.objs.size := fun q => by
    have := S1.D
    simp [q] at this
  have hDI : I ≠ s₂.heap.objs.size := fun q => by
    have := S1.D
    simp [q] at this
  have S0 : Ls h₀ L cs hf h₁ m cm ((I, oI₀) :: (H2.objs.size, oC₀) :: (s₂.heap.objs.size, lst []) :: led) := by
    refine ⟨S1.F, S1.C, S1.U, S1.K, fun p hp => S1.N p ?_, ?_, S1.O, S1.aL, S1.aC⟩
    · simp only [List.mem_cons] at hp ⊢
      rcases hp with h | h | h | h <;> simp [h]
    · have := S1.D
      simp only [List.map_cons, List.nodup_cons, List.mem_cons, not_or] at this ⊢
      obtain ⟨⟨a1, a2, a3⟩, ⟨a4, a5⟩, a6, a7⟩ := this
      exact ⟨⟨fun q => a2 q.symm, fun q => a4 q.symm, a6⟩, ⟨a1, a3⟩, a5, a7⟩
  have loop : ∀ s₃ : Shared, s₃ = { s₂ with heap := h₁, toks := s₂.toks + ([] : List (Str × Value)).length } →
      codeC (model prog w) A (.compLoop (.ListComp elt [⟨target, iter, ifs, 0⟩] scope pos) 0 (.ref I) (.ref s₂.heap.objs.size) (compEnvC scope cl H2.objs.size env))
        (RR (.ref s₂.heap.objs.size) H2.objs.size) s₃ := by
    rintro s₃ rfl
    refine LC_loop
      (fun k s' => ∃ h' tk i ys oI oC m' hf₁, s' = { s₂ with heap := h', toks := tk } ∧ i ≤ n ∧ k = n + 1 - i ∧ ys.length ≤ i ∧ St i h' ∧ Ls h₀ L cs hf₁ h' m cm ((I, oI) :: (H2.objs.size, oC) :: (s₂.heap.objs.size, lst ys) :: led) ∧
        h'.Ns H2.objs.size m' ∧ hf.StaysIn hf₁ ∧ J i ys hf₁) ?_ (n + 1) ⟨h₁, _, 0, [], oI₀, oC₀, _, hf, rfl, Nat.zero_le _, rfl, Nat.le_refl _, hst₁, S0, hns₁, fun _ _ e => e, j0⟩
    rintro k s' ⟨h', tk, i, ys, oI, oC, m', hf₁, rfl, hi, rfl, hyl, hst', S', hn', hff, hJ⟩
    by_cases hlt : i < n
    · refine W.item i _ _ _ hlt hst' fun v h₂ tk₂ hPv hst₂ hk₂ => ?_
      obtain ⟨oI₂, hoI₂⟩ := hIo _ _ hst₂
      have S₂ := S'.upd0 (h' := h₂) (o' := oI₂) (fun b x hb e => hk₂ b x (fun hm => hb (List.mem_singleton.mp hm)) e) hoI₂
      have hn₂ : h₂.Ns H2.objs.size m' := hn'.at' fun o e => hk₂ _ o (fun hm => hCI (List.mem_singleton.mp hm).symm) e
      have hkk : hf.StaysIn h₂ := fun b o e => S₂.K b o (hff b o e)
      refine asg H2.objs.size i v { s₂ with heap := h₂, toks := tk₂ } m' _ hPv hst₂ hkk hn₂ fun h₃ tk₃ m₃ hk₃ hn₃ hpm => ?_
      obtain ⟨oC₃, hoC₃, hnC₃⟩ := ns_obj hn₃
      have S₃ : Ls h₀ L cs hf₁ h₃ m cm ((I, oI₂) :: (H2.objs.size, oC₃) :: (s₂.heap.objs.size, lst ys) :: led) := S₂.upd (l1 := [(I, oI₂)]) (fun b x hb e => hk₃ b x hb e) hoC₃
      have hkk₃ : hf.StaysIn h₃ := fun b o e => S₃.K b o (hff b o e)
      have hst₃ : St (i + 1) h₃ := hSt _ _ _ _ hst₂ hoI₂ (S₃.N (I, oI₂) List.mem_cons_self).1 hkk₃
      have aft : ∀ {s₄ : Shared} {ys' : List Value} (hl : ys'.length ≤ i + 1), (∃ h tk hf₂, s₄ = { s₂ with heap := h, toks := tk } ∧ hf₁.StaysIn hf₂ ∧ J (i + 1) ys' hf₂ ∧ Ls h₀ L cs hf₂ h m cm ((I, oI₂) :: (H2.objs.size, oC₃) :: (s₂.heap.objs.size, lst ys') :: led)) →
          ∃ k, k < n + 1 - i ∧ ∃ h' tk i ys oI oC m' hf₁, s₄ = { s₂ with heap := h', toks := tk } ∧ i ≤ n ∧ k = n + 1 - i ∧ ys.length ≤ i ∧ St i h' ∧ Ls h₀ L cs hf₁ h' m cm ((I, oI) :: (H2.objs.size, oC) :: (s₂.heap.objs.size, lst ys) :: led) ∧
            h'.Ns H2.objs.size m' ∧ hf.StaysIn hf₁ ∧ J i ys hf₁ := by
        rintro s₄ ys' hl ⟨h₄, tk₄, hf₂, rfl, hf12, hJ', S₄⟩
        have hf02 : hf.StaysIn hf₂ := fun b o e => hf12 b o (hff b o e)
        refine ⟨n + 1 - (i + 1), by omega, h₄, tk₄, i + 1, ys', oI₂, oC₃, m₃, hf₂, rfl, hlt, rfl, hl, ?_, S₄, hnC₃.ns (S₄.N (H2.objs.size, oC₃) (List.mem_cons_of_mem _ List.mem_cons_self)).1, hf02, hJ'⟩
        exact hSt _ _ _ _ hst₃ (S₃.N (I, oI₂) List.mem_cons_self).1 (S₄.N (I, oI₂) List.mem_cons_self).1 fun b o e => S₄.K b o (hf02 b o e)
      refine wpC_mono (turn i v ys hf₁ h₃ tk₃ oI₂ H2.objs.size oC₃ s₂.heap.objs.size m₃ hPv hlt hff hJ S₃ hn₃ hpm) (fun ok s₄ h₄ => ?_) fun _ _ q => q
      cases ok with
      | false =>
        simp only [Bool.false_eq_true, if_false] at h₄ ⊢
        exact aft (by omega) h₄
      | true =>
        simp only [if_true] at h₄ ⊢
        refine wpC_mono h₄ (fun y s₅ h₅ => ?_) fun _ _ q => q
        obtain ⟨h₅, tk₅, hf₂, rfl, hf12, hJ', S₅⟩ := h₅
        have zD := (S₅.N (s₂.heap.objs.size, lst ys) (List.mem_cons_of_mem _ (List.mem_cons_of_mem _ List.mem_cons_self))).1
        refine append_at (hsz := by show ys.toArray.size ≤ sizeLine; rw [List.size_toArray, sizeLine_eq]; omega) zD fun h₆ hs₆ hD₆ => ?_
        exact aft (by rw [List.length_append, List.length_singleton]; omega) ⟨h₆, tk₅, hf₂, rfl, hf12, hJ', S₅.upd (l1 := [(I, oI₂), (H2.objs.size, oC₃)]) (fun b x hb e => hs₆.extBut b x hb e) (hD₆.trans (congrArg some (lst_snoc ys y)))⟩
    · obtain rfl : i = n := Nat.le_antisymm hi (Nat.not_lt.mp hlt)
      refine W.done _ _ _ hst' fun h₂ tk₂ hk₂ => ?_
      have hkI : ∀ b x, b ≠ I → h'.get? b = some x → h₂.get? b = some x := fun b x hb e => hk₂ b x (fun hm => hb (List.mem_singleton.mp hm)) e
      refine hRR _ _ h₂ tk₂ m' ys hf₁ oC hff hJ ?_ (hn'.at' fun o e => hkI _ o (Ne.symm hCI) e)
      have nI := S'.N (I, oI) List.mem_cons_self
      have hD := S'.D
      rw [List.map_cons, List.nodup_cons] at hD
      have hkf : hf₁.StaysIn h₂ := fun b x e => hkI b x (fun q => by rw [q, nI.2.2.1] at e; cases e) (S'.K b x e)
      refine ⟨⟨S'.F.ns.at' fun o e => hkI _ o (Ne.symm nI.2.1) e, fun b x e => hkf b x (S'.O b x e), S'.F.above⟩, ⟨fun nn c e => ?_, S'.C.apart, S'.C.above⟩, S'.U, hkf, fun p hp => ?_, hD.2, S'.O, S'.aL, S'.aC⟩
      · obtain ⟨x, hx, hd⟩ := S'.C.cell nn c e
        exact ⟨x, hkI _ _ (nI.2.2.2 nn c (mem_of_lookup e)) hx, hd⟩
      · obtain ⟨q1, q2⟩ := S'.N p (List.mem_cons_of_mem _ hp)
        exact ⟨hkI _ _ (fun e => hD.1 (List.mem_map.mpr ⟨p, hp, e⟩)) q1, q2⟩
  refine CS_start rfl rfl rfl rfl rfl (fun _ => rfl) (loop _ rfl) ?_
  exact W.self 0 _ _ _ hst₁ (loop _ rfl)
end
end Blk

section Dbl
open TI LCg
theorem valueAt_stored {K : Type} [DecidableEq K] (kvs : List (K × Value)) (k : K) (v : Value) (k' : K) : valueAt (stored kvs k v) k' = if k' = k then some v else valueAt kvs k' := by
  have hmap : ∀ l : List (K × Value), valueAt (l.map fun kv => if kv.1 = k then (kv.1, v) else kv) k' = if k' = k then (valueAt l k').map (fun _ => v) else valueAt l k' := by
    intro l
    induction l with
    | nil => by_cases h : k' = k <;> simp [valueAt, h]
    | cons kv r ih =>
      obtain ⟨a, b⟩ := kv
      unfold valueAt at ih ⊢
      rw [List.map_cons, List.find?_cons, List.find?_cons]
      by_cases hak : a = k
      · subst hak
        by_cases h : k' = a
        · subst h; simp
        · rw [if_neg h] at ih ⊢
          simp only [if_true]
          have : ¬ a = k' := fun q => h q.symm
          simp only [this, decide_false]
          exact ih
      · rw [if_neg hak]
        by_cases hak' : a = k'
        · subst hak'
          simp [hak]
        · simp only [hak', decide_false]
          exact ih
  unfold stored
  by_cases hany : kvs.any (fun kv => kv.1 = k) = true
  · rw [if_pos hany, hmap]
    by_cases h : k' = k
    · subst h
      rw [if_pos rfl, if_pos rfl]
      unfold valueAt
      rw [List.any_eq_true] at hany
      cases hf : kvs.find? fun kv => kv.1 = k' with
      | none =>
        exfalso
        obtain ⟨x, hx, hxk⟩ := hany
        exact absurd hxk (by simpa using List.find?_eq_none.mp hf x hx)
      | some x => simp
    · rw [if_neg h, if_neg h]
  · rw [if_neg hany]
    have hnone : ∀ x ∈ kvs, ¬ x.1 = k := fun x hx e => hany (List.any_eq_true.mpr ⟨x, hx, by simpa using e⟩)
    unfold valueAt
    rw [List.find?_append]
    by_cases h : k' = k
    · subst h
      have : (kvs.find? fun kv => kv.1 = k') = none := List.find?_eq_none.mpr fun x hx => by simpa using hnone x hx
      rw [this, if_pos rfl]
      simp
    · rw [if_neg h]
      cases hf : kvs.find? fun kv => kv.1 = k' with
      | some x => simp
      | none =>
        have : ¬ k = k' := fun q => h q.symm
        simp [this]
section
variable {prog : Program} {w : World} {A : Around} {env : Env} {h₀ hf : Heap} {L : Addr} {cs : List (Str × Addr)} {m cm : Str → Option Value} {led : List (Addr × Obj)}
noncomputable def DcJ (key : Nat → Str) (val : Nat → Value) (i : Nat) (kvs : List (Str × Value)) : Prop := kvs.length ≤ i ∧ ∀ j, j < i → ∃ j', j' < i ∧ key j' = key j ∧ valueAt kvs (key j) = some (val j')
theorem DcJ.step {key : Nat → Str} {val : Nat → Value} {i : Nat} {kvs : List (Str × Value)} (h : DcJ key val i kvs) : DcJ key val (i + 1) (stored kvs (key i) (val i)) := by
  refine ⟨Nat.le_trans (stored_length_le _ _ _) (Nat.succ_le_succ h.1), fun j hj => ?_⟩
  rw [valueAt_stored]
  by_cases e : key j = key i
  · rw [if_pos e]
    exact ⟨i, Nat.lt_succ_self _, e.symm, rfl⟩
  · rw [if_neg e]
    have hji : j < i := by
      rcases Nat.lt_or_ge j i with h | h
      · exact h
      · exact absurd (by rw [show j = i by omega]) e
    obtain ⟨j', a, b, c⟩ := h.2 j hji
    exact ⟨j', Nat.lt_succ_of_lt a, b, c⟩
theorem DC_block {kx vx target iter : PySem.Expr} {scope : Scope} {cl : List (Str × Addr)} {pos : Pos} {s₂ : Shared} {I : Addr} {oI₀ : Obj} {fp : List Addr} {n : Nat} {P : Nat → Value → Prop} {St : Nat → Heap → Prop} {pm : Nat → Value → (Str → Option Value) → Prop}
    {RR : Value → Addr → Result → Shared → Prop} (key : Nat → Str) (val : Nat → Value)
    (W : Walks prog w A I fp [I] n P St) (hsz : n ≤ 1000) (hIo : ∀ i h, St i h → ∃ o, h.get? I = some o)
    (hSt : ∀ i h h' o, St i h → h.get? I = some o → h'.get? I = some o → hf.StaysIn h' → St i h')
    (hcell : ∀ y ∈ scope.names, y.2 ≠ .cell) (hkind : scope.kind = .function)
    (hst : St 0 s₂.heap) (hfp : ∀ b ∈ fp, b < s₂.heap.objs.size) (S : Ls h₀ L cs hf s₂.heap m cm ((I, oI₀) :: led))
    (asg : ∀ C, AsgOk prog w A (compEnvC scope cl C env) target I P St hf pm)
    (turn : ∀ i v C m₂ (s : Shared), P i v → i < n → pm i v m₂ → s.heap.Ns C m₂ → 
      wpAny (model prog w) A (eval kx (compEnvC scope cl C env)) (fun a s' => (∃ u, a = .str (key i) u) ∧ s' = s) no s ∧ wpAny (model prog w) A (eval vx (compEnvC scope cl C env)) (fun b s' => b = val i ∧ s' = s) no s)
    (hRR : ∀ D C h tk m' f oC oD, Ls h₀ L cs hf h m cm ((C, oC) :: (D, oD) :: led) → h.MapOf (strKind prog w) D f → (∀ j, j < n → ∃ j', j' < n ∧ key j' = key j ∧ f (key j) = some (val j')) → h.Ns C m' → RR (.ref D) C (.ok .next) { s₂ with heap := h, toks := tk }) :
    wpAny (model prog w) A newDict (fun acc s₃ => wpAny (model prog w) A (newFunctionEnv scope env.globals cl [] env.qual none .none (some env)) (fun cenv s₄ =>
      codeC (model prog w) A (.compStart (.DictComp kx vx [⟨target, iter, [], 0⟩] scope pos) 0 (.ref I) acc { cenv with scope := relabel scope env }) (RR acc cenv.locals) s₄) no s₃) no s₂ := by
  refine wpAny_newObj_type (wpAny_newFunctionEnv hcell (by intro y hy; simp at hy) (fun h₁ hns₁ hsb₁ => ?_) hkind)
  dsimp only at hns₁ hsb₁ ⊢
  have hnew : (s₂.heap.push { cls := .type "dict", dict := none, data := .dict #[] }).DictOf (strKind prog w) s₂.heap.objs.size [] := Heap.DictOf.new s₂.heap
  generalize hH2 : s₂.heap.push { cls := .type "dict", dict := none, data := .dict #[] } = H2 at hns₁ hsb₁ hnew ⊢
  have hC : H2.objs.size = s₂.heap.objs.size + 1 := by rw [← hH2, Heap.size_push]
  have hDC : s₂.heap.objs.size ≠ H2.objs.size := by rw [hC]; exact Nat.ne_of_lt (Nat.lt_succ_self _)
  have fresh : ∀ (g : Heap) a, g.objs.size ≤ a → g.get? a = none := fun g a ha => by
    cases e : g.get? a with
    | none => rfl
    | some o' => exact absurd (Heap.lt_size e) (Nat.not_lt.mpr ha)
  have st2 : s₂.heap.StaysIn H2 := fun b o e => hH2 ▸ Heap.get?_push_of_some _ e
  obtain ⟨oD₀, hD2, hdD₀⟩ := Heap.dictOf_iff.mp hnew
  have S2 : Ls h₀ L cs hf H2 m cm ((s₂.heap.objs.size, oD₀) :: (I, oI₀) :: led) := S.new st2 (fresh _ _ (Nat.le_refl _)) hD2
  have st1 : H2.StaysIn h₁ := fun b o e => hsb₁.extBut b o (Nat.ne_of_lt (Heap.lt_size e)) (Heap.get?_push_of_some _ e)
  obtain ⟨oC₀, hoC₀, hnC₀⟩ := ns_obj hns₁
  have S1 : Ls h₀ L cs hf h₁ m cm ((H2.objs.size, oC₀) :: (s₂.heap.objs.size, oD₀) :: (I, oI₀) :: led) := S2.new st1 (fresh _ _ (Nat.le_refl _)) hoC₀
  have hst₁ : St 0 h₁ := W.frame _ _ _ hst fun b _ o e => st1 _ _ (st2 _ _ e)
  have hCI : I ≠ H2.objs.size := fun q => by
    have := S1.D
    simp [q] at this
  have S0 : Ls h₀ L cs hf h₁ m cm ((I, oI₀) :: (H2.objs.size, oC₀) :: (s₂.heap.objs.size, oD₀) :: led) := by
    refine ⟨S1.F, S1.C, S1.U, S1.K, fun p hp => S1.N p ?_, ?_, S1.O, S1.aL, S1.aC⟩
    · simp only [List.mem_cons] at hp ⊢
      rcases hp with h | h | h | h <;> simp [h]
    · have := S1.D
      simp only [List.map_cons, List.nodup_cons, List.mem_cons, not_or] at this ⊢
      obtain ⟨⟨a1, a2, a3⟩, ⟨a4, a5⟩, a6, a7⟩ := this
      exact ⟨⟨fun q => a2 q.symm, fun q => a4 q.symm, a6⟩, ⟨a1, a3⟩, a5, a7⟩
  have loop : ∀ s₃ : Shared, s₃ = { s₂ with heap := h₁, toks := s₂.toks + ([] : List (Str × Value)).length } →
      codeC (model prog w) A (.compLoop (.DictComp kx vx [⟨target, iter, [], 0⟩] scope pos) 0 (.ref I) (.ref s₂.heap.objs.size) (compEnvC scope cl H2.objs.size env))
        (RR (.ref s₂.heap.objs.size) H2.objs.size) s₃ := by
    rintro s₃ rfl
    refine DC_loop
      (fun k s' => ∃ h' tk i kvs oI oC oD m', s' = { s₂ with heap := h', toks := tk } ∧ i ≤ n ∧ k = n + 1 - i ∧ St i h' ∧ Ls h₀ L cs hf h' m cm ((I, oI) :: (H2.objs.size, oC) :: (s₂.heap.objs.size, oD) :: led) ∧
        h'.Ns H2.objs.size m' ∧ h'.DictOf (strKind prog w) s₂.heap.objs.size kvs ∧ DcJ key val i kvs) ?_ (n + 1) ⟨h₁, _, 0, [], oI₀, oC₀, oD₀, _, rfl, Nat.zero_le _, rfl, hst₁, S0, hns₁, Heap.dictOf_iff.mpr ⟨oD₀, st1 _ _ hD2, hdD₀⟩, ⟨Nat.le_refl _, fun j hj => absurd hj (Nat.not_lt_zero _)⟩⟩
    rintro k s' ⟨h', tk, i, kvs, oI, oC, oD, m', rfl, hi, rfl, hst', S', hn', hd', hJ⟩
    by_cases hlt : i < n
    · refine W.item i _ _ _ hlt hst' fun v h₂ tk₂ hPv hst₂ hk₂ => ?_
      obtain ⟨oI₂, hoI₂⟩ := hIo _ _ hst₂
      have S₂ := S'.upd0 (h' := h₂) (o' := oI₂) (fun b x hb e => hk₂ b x (fun hm => hb (List.mem_singleton.mp hm)) e) hoI₂
      have hn₂ : h₂.Ns H2.objs.size m' := hn'.at' fun o e => hk₂ _ o (fun hm => hCI (List.mem_singleton.mp hm).symm) e
      refine asg H2.objs.size i v { s₂ with heap := h₂, toks := tk₂ } m' _ hPv hst₂ S₂.K hn₂ fun h₃ tk₃ m₃ hk₃ hn₃ hpm => ?_
      obtain ⟨oC₃, hoC₃, hnC₃⟩ := ns_obj hn₃
      have S₃ : Ls h₀ L cs hf h₃ m cm ((I, oI₂) :: (H2.objs.size, oC₃) :: (s₂.heap.objs.size, oD) :: led) := S₂.upd (l1 := [(I, oI₂)]) (fun b x hb e => hk₃ b x hb e) hoC₃
      have hst₃ : St (i + 1) h₃ := hSt _ _ _ _ hst₂ hoI₂ (S₃.N (I, oI₂) List.mem_cons_self).1 S₃.K
      obtain ⟨ek, ev⟩ := turn i v H2.objs.size m₃ { s₂ with heap := h₃, toks := tk₃ } hPv hlt hpm hn₃
      refine T_nil ?_
      rw [if_pos rfl]
      refine wpC_of (wpAny_mono ek (fun a s₄ h₄ => ?_) fun _ _ q => q)
      obtain ⟨⟨u, rfl⟩, rfl⟩ := h₄
      refine wpC_of (wpAny_mono ev (fun b s₅ h₅ => ?_) fun _ _ q => q)
      obtain ⟨rfl, rfl⟩ := h₅
      have hoD : h'.get? s₂.heap.objs.size = some oD := (S'.N (s₂.heap.objs.size, oD) (by simp)).1
      have hd₃ : h₃.DictOf (strKind prog w) s₂.heap.objs.size kvs := by
        obtain ⟨x, hx, hr⟩ := Heap.dictOf_iff.mp hd'
        rw [hoD] at hx
        obtain rfl := Option.some.inj hx
        exact Heap.dictOf_iff.mpr ⟨_, (S₃.N (s₂.heap.objs.size, oD) (by simp)).1, hr⟩
      refine wpAny_dictSet_pairs (knd := strKind prog w) (k := key i) (hsz := by have := hJ.1; rw [sizeLine_eq]; omega) (show (PySem.strKind prog w).is (key i) (.str (key i) u) = true by show ((key i) == (key i)) = true; exact beq_self_eq_true _) hd₃ fun h₆ hl₆ hs₆ => ?_
      obtain ⟨oD₆, hoD₆, hdD₆⟩ := Heap.dictOf_iff.mp hl₆
      have S₆ : Ls h₀ L cs hf h₆ m cm ((I, oI₂) :: (H2.objs.size, oC₃) :: (s₂.heap.objs.size, oD₆) :: led) := S₃.upd (l1 := [(I, oI₂), (H2.objs.size, oC₃)]) (fun b x hb e => hs₆.extBut b x hb e) hoD₆
      refine ⟨n + 1 - (i + 1), by omega, h₆, _, i + 1, stored kvs (key i) (val i), oI₂, oC₃, oD₆, m₃, rfl, hlt, rfl, ?_, S₆, hnC₃.ns (S₆.N (H2.objs.size, oC₃) (by simp)).1, hl₆, hJ.step⟩
      exact hSt _ _ _ _ hst₃ (S₃.N (I, oI₂) List.mem_cons_self).1 (S₆.N (I, oI₂) List.mem_cons_self).1 S₆.K
    · obtain rfl : i = n := Nat.le_antisymm hi (Nat.not_lt.mp hlt)
      refine W.done _ _ _ hst' fun h₂ tk₂ hk₂ => ?_
      have hkI : ∀ b x, b ≠ I → h'.get? b = some x → h₂.get? b = some x := fun b x hb e => hk₂ b x (fun hm => hb (List.mem_singleton.mp hm)) e
      have nI := S'.N (I, oI) List.mem_cons_self
      have hD := S'.D
      rw [List.map_cons, List.nodup_cons] at hD
      have hDI : s₂.heap.objs.size ≠ I := fun q => hD.1 (by simp [q])
      refine hRR _ _ h₂ tk₂ m' (valueAt kvs) oC oD ?_ (Heap.DictOf.mapOf ?_) hJ.2 (hn'.at' fun o e => hkI _ o (Ne.symm hCI) e)
      · have hkf : hf.StaysIn h₂ := fun b x e => hkI b x (fun q => by rw [q, nI.2.2.1] at e; cases e) (S'.K b x e)
        refine ⟨⟨S'.F.ns.at' fun o e => hkI _ o (Ne.symm nI.2.1) e, fun b x e => hkf b x (S'.O b x e), S'.F.above⟩, ⟨fun nn c e => ?_, S'.C.apart, S'.C.above⟩, S'.U, hkf, fun p hp => ?_, hD.2, S'.O, S'.aL, S'.aC⟩
        · obtain ⟨x, hx, hd⟩ := S'.C.cell nn c e
          exact ⟨x, hkI _ _ (nI.2.2.2 nn c (mem_of_lookup e)) hx, hd⟩
        · obtain ⟨q1, q2⟩ := S'.N p (List.mem_cons_of_mem _ hp)
          exact ⟨hkI _ _ (fun e => hD.1 (List.mem_map.mpr ⟨p, hp, e⟩)) q1, q2⟩
      · obtain ⟨x, hx, hr⟩ := Heap.dictOf_iff.mp hd'
        exact Heap.dictOf_iff.mpr ⟨x, hkI _ _ hDI hx, hr⟩
  refine CS_start rfl rfl rfl rfl rfl (fun _ => rfl) (loop _ rfl) ?_
  exact W.self 0 _ _ _ hst₁ (loop _ rfl)
end
end Dbl

section Lce
open TI LCg
theorem size_upto {n : Nat} : Builtin.Range.rangeSize 0 ((n : Nat) : Int) 1 = ((n : Nat) : Int) := by
  rw [rangeSize_one]
  split <;> omega
theorem small_upto {n : Nat} (h : n ≤ 1000) : Builtin.Range.small 0 ((n : Nat) : Int) 1 = true := by
  unfold Builtin.Range.small
  rw [size_upto]
  simp [Builtin.Range.rangeFitsLong]
  omega
section
variable {prog : Program} {w : World} {A : Around} {E : Value → Shared → Prop} {env : Env} {h₀ hf : Heap} {L : Addr} {cs : List (Str × Addr)} {m cm : Str → Option Value} {led : List (Addr × Obj)} {s : Shared}
/-- what one turn of a list comprehension must do -/
noncomputable def LcTurn (prog : Program) (w : World) (A : Around) (env : Env) (h₀ : Heap) (L : Addr) (cs : List (Str × Addr)) (m cm : Str → Option Value) (led : List (Addr × Obj)) (elt : PySem.Expr) (ifs : List PySem.Expr) (scope : Scope) (cl : List (Str × Addr)) (s : Shared)
    (hf₁ : Heap) (n : Nat) (P : Nat → Value → Prop) (pm : Nat → Value → (Str → Option Value) → Prop) (J : Nat → List Value → Heap → Prop) : Prop :=
  ∀ i v ys hf₂ h tk I oI C oC D m₂, P i v → i < n → hf₁.StaysIn hf₂ → J i ys hf₂ → Ls h₀ L cs hf₂ h m cm ((I, oI) :: (C, oC) :: (D, lst ys) :: led) → h.Ns C m₂ → pm i v m₂ →
    wpC (model prog w) A (testsOf ifs (compEnvC scope cl C env)) (fun ok s₃ =>
      if ok = true then wpC (model prog w) A (eval elt (compEnvC scope cl C env)) (fun y s₄ => Aft h₀ L cs hf₂ m cm ((I, oI) :: (C, oC) :: (D, lst ys) :: led) s (J (i + 1)) (ys ++ [y]) s₄) no s₃
      else Aft h₀ L cs hf₂ m cm ((I, oI) :: (C, oC) :: (D, lst ys) :: led) s (J (i + 1)) ys s₃) no { s with heap := h, toks := tk }
noncomputable def LcL (prog : Program) (w : World) (A : Around) (env : Env) (h₀ : Heap) (L : Addr) (cs : List (Str × Addr)) (m cm : Str → Option Value) (led : List (Addr × Obj)) (elt target : PySem.Expr) (ifs : List PySem.Expr) (scope : Scope) (cl : List (Str × Addr)) (s : Shared)
    (Fin : Heap → Addr → Heap → Nat → List Value → Prop) (xv : Value) (s₁ : Shared) : Prop :=
  ∃ ax vs hf₁ h tk pm J, xv = .ref ax ∧ s₁ = { s with heap := h, toks := tk } ∧ Ls h₀ L cs hf₁ h m cm led ∧ hf₁.IsList ax (List.toArray vs) ∧ vs.length ≤ 1000 ∧ J 0 [] hf₁ ∧
    (∀ I C, AsgOk prog w A (compEnvC scope cl C env) target I (fun i v => (List.toArray vs)[i]? = some v) (fun i h => h.IsListIter I ax i ∧ h.IsList ax (List.toArray vs)) hf₁ pm) ∧
    LcTurn prog w A env h₀ L cs m cm led elt ifs scope cl s hf₁ vs.length (fun i v => (List.toArray vs)[i]? = some v) pm J ∧
    (∀ D h tk ys hf₂, hf₁.StaysIn hf₂ → J vs.length ys hf₂ → Ls h₀ L cs hf₂ h m cm ((D, lst ys) :: led) → Fin hf₂ D h tk ys)
noncomputable def LcR (prog : Program) (w : World) (A : Around) (env : Env) (h₀ : Heap) (L : Addr) (cs : List (Str × Addr)) (m cm : Str → Option Value) (led : List (Addr × Obj)) (elt target : PySem.Expr) (ifs : List PySem.Expr) (scope : Scope) (cl : List (Str × Addr)) (s : Shared)
    (Fin : Heap → Addr → Heap → Nat → List Value → Prop) (xv : Value) (s₁ : Shared) : Prop :=
  ∃ r n t u v hf₁ h tk pm J, xv = .ref r ∧ s₁ = { s with heap := h, toks := tk } ∧ Ls h₀ L cs hf₁ h m cm led ∧ IsRange h r 0 ((n : Nat) : Int) 1 t u v ∧ n ≤ 1000 ∧ J 0 [] hf₁ ∧
    (∀ I C, AsgOk prog w A (compEnvC scope cl C env) target I (fun i v => ∃ t, v = .int (0 + (i : Int)) t) (fun i h => IsRangeIter h I (0 + (i : Nat) * 1) ((n : Int) - (i : Nat)) 1) hf₁ pm) ∧
    LcTurn prog w A env h₀ L cs m cm led elt ifs scope cl s hf₁ n (fun i v => ∃ t, v = .int (0 + (i : Int)) t) pm J ∧
    (∀ D h tk ys hf₂, hf₁.StaysIn hf₂ → J n ys hf₂ → Ls h₀ L cs hf₂ h m cm ((D, lst ys) :: led) → Fin hf₂ D h tk ys)
theorem Ls.letC {h h' : Heap} {C : Addr} {oC : Obj} {m' : Str → Option Value} (S : Ls h₀ L cs hf h m cm ((C, oC) :: led)) (hn : h.Ns C m') (hs : Heap.SameBut C h h') : Ls h₀ L cs hf h' m cm led := by
  have e : h'.get? C = h'.get? C := rfl
  have nC := S.N (C, oC) List.mem_cons_self
  have hD := S.D
  rw [List.map_cons, List.nodup_cons] at hD
  have hk : hf.StaysIn h' := fun b x e => (hs.2 b (fun q => by rw [q, nC.2.2.1] at e; cases e)).trans (S.K b x e)
  refine ⟨⟨S.F.ns.sameBut hs (Ne.symm nC.2.1), fun b x e => hk b x (S.O b x e), S.F.above⟩, ⟨fun nn c e => ?_, S.C.apart, S.C.above⟩, S.U, hk, fun p hp => ?_, hD.2, S.O, S.aL, S.aC⟩
  · exact (S.C.cell nn c e).sameBut hs (nC.2.2.2 nn c (mem_of_lookup e))
  · obtain ⟨q1, q2⟩ := S.N p (List.mem_cons_of_mem _ hp)
    exact ⟨(hs.2 _ fun e => hD.1 (List.mem_map.mpr ⟨p, hp, e⟩)).trans q1, q2⟩

theorem LC_parts {elt target iter : PySem.Expr} {ifs : List PySem.Expr} {scope : Scope} {cl : List (Str × Addr)} {pos : Pos} {use : Option (Value → Sem Unit)} {Q : Value → Shared → Prop} {Fin : Heap → Addr → Heap → Nat → List Value → Prop}
    (hA : A.handled = none) (hclos : closureFor scope env = pure cl) (hcell : ∀ y ∈ scope.names, y.2 ≠ .cell) (hkind : scope.kind = .function) (hnames : ∀ y ∈ scope.names, y.2 = .local → scope.names.lookup y.1 = some .local)
    (hFin : ∀ D h tk ys hf₂ C oC m', Ls h₀ L cs hf₂ h m cm ((C, oC) :: (D, lst ys) :: led) → h.Ns C m' → Ls h₀ L cs hf₂ h m cm ((D, lst ys) :: led) → (∀ h' tk', Ls h₀ L cs hf₂ h' m cm ((D, lst ys) :: led) → Fin hf₂ D h' tk' ys) → compPostC (model prog w) A use Q (.ref D) C (.ok .next) { s with heap := h, toks := tk })
    (h : wpC (model prog w) A (eval iter env) (fun xv s₁ => LcL prog w A env h₀ L cs m cm led elt target ifs scope cl s Fin xv s₁ ∨ LcR prog w A env h₀ L cs m cm led elt target ifs scope cl s Fin xv s₁) no s)
    (hs : ∀ x, foldedSetIterable iter env x = pure x) :
    wpC (model prog w) A (comprehension (.ListComp elt [⟨target, iter, ifs, 0⟩] scope pos) scope env (firstIterPos [⟨target, iter, ifs, 0⟩] pos) (newList []) false (eval iter env) use) Q E s := by
  refine C_comprehension (g := ⟨target, iter, ifs, 0⟩) (gs := []) rfl hs hclos hkind hnames (wpC_mono h (fun xv s₁ h₁ => ?_) fun _ _ q => q)
  rcases h₁ with ⟨ax, vs, hf₁, h₁, tk₁, pm, J, rfl, rfl, S, hl, hsz, j0, asg, turn, fin⟩ | ⟨r, n, t, u, v, hf₁, h₁, tk₁, pm, J, rfl, rfl, S, hr, hsz, j0, asg, turn, fin⟩
  · have hl₁ : h₁.IsList ax (List.toArray vs) := isList_keeps hl S.K
    have hlt : ax < h₁.objs.size := by obtain ⟨_, e, _⟩ := hl₁; exact Heap.lt_size e
    refine wpAny_pyIter_list hl₁ ?_
    have up : h₁.StaysIn (h₁.push { cls := .type "list_iterator", data := .fields #[.ref ax, .int 0 0] }) := fun b o e => Heap.get?_push_of_some _ e
    have hfr : h₁.get? h₁.objs.size = none := by
      cases e : h₁.get? h₁.objs.size with
      | none => rfl
      | some o => exact absurd (Heap.lt_size e) (Nat.lt_irrefl _)
    have W := Walks.list (prog := prog) (w := w) hA h₁.objs.size ax (Nat.ne_of_lt hlt) (List.toArray vs)
    have hz : (List.toArray vs).size = vs.length := by simp
    rw [hz] at W
    refine LC_block (S := S.new up hfr (Heap.get?_push_size _ rfl)) J W hsz (fun i h st => by obtain ⟨o, e, _⟩ := st.1; exact ⟨o, e⟩) (fun i h h' o st e e' k => ⟨by obtain ⟨o', q, r⟩ := st.1; rw [e] at q; cases q; exact ⟨o, e', r⟩, isList_keeps hl k⟩)
      hcell hkind ⟨⟨_, Heap.get?_push_size _ rfl, rfl, rfl⟩, isList_keeps hl₁ up⟩ (fun b hb => ?_) j0 (fun C => asg _ C) (fun i v ys hf₂ h tk oI C oC D m₂ a1 a2 a3 a4 a5 a6 a7 => turn i v ys hf₂ h tk _ oI C oC D m₂ a1 a2 a3 a4 a5 a6 a7) ?_
    · show b < (h₁.push _).objs.size
      rw [Heap.size_push]
      rcases List.mem_cons.mp hb with rfl | hb
      · exact Nat.lt_succ_self _
      · rw [List.mem_singleton.mp hb]; exact Nat.lt_succ_of_lt hlt
    · intro D C h tk m' ys hf₂ oC a1 a2 a3 a4
      exact hFin D h tk ys hf₂ C oC m' a3 a4 a3.drop1 fun h' tk' S' => fin D h' tk' ys hf₂ a1 a2 S'
  · refine wpAny_pyIter_range hr (small_upto hsz) ?_
    have up : ∀ ob : Obj, h₁.StaysIn (h₁.push ob) := fun ob b o e => Heap.get?_push_of_some _ e
    have hfr : h₁.get? h₁.objs.size = none := by
      cases e : h₁.get? h₁.objs.size with
      | none => rfl
      | some o => exact absurd (Heap.lt_size e) (Nat.lt_irrefl _)
    refine LC_block (S := S.new (up _) hfr (Heap.get?_push_size _ rfl)) J (range_walks hA 0 n) hsz (fun i h st => ⟨_, st⟩) (fun i h h' o st e e' k => ?_)
      hcell hkind (by show IsRangeIter _ _ _ _ _; rw [size_upto]; simpa using Heap.get?_push_size _ rfl) (fun b hb => ?_) j0 (fun C => asg _ C) (fun i v ys hf₂ h tk oI C oC D m₂ a1 a2 a3 a4 a5 a6 a7 => turn i v ys hf₂ h tk _ oI C oC D m₂ a1 a2 a3 a4 a5 a6 a7) ?_
    · have st' : h.get? _ = some _ := st
      show h'.get? _ = some _
      rw [e', ← e]; exact st'
    · rw [List.mem_singleton.mp hb]
      show h₁.objs.size < (h₁.push _).objs.size
      rw [Heap.size_push]; exact Nat.lt_succ_self _
    · intro D C h tk m' ys hf₂ oC a1 a2 a3 a4
      exact hFin D h tk ys hf₂ C oC m' a3 a4 a3.drop1 fun h' tk' S' => fin D h' tk' ys hf₂ a1 a2 S'
theorem LC_eval {elt target iter : PySem.Expr} {ifs : List PySem.Expr} {scope : Scope} {cl : List (Str × Addr)} {pos : Pos} {Q : Value → Shared → Prop}
    (hA : A.handled = none) (hclos : closureFor scope env = pure cl) (hcell : ∀ y ∈ scope.names, y.2 ≠ .cell) (hkind : scope.kind = .function) (hnames : ∀ y ∈ scope.names, y.2 = .local → scope.names.lookup y.1 = some .local)
    (h : wpC (model prog w) A (eval iter env) (fun xv s₁ => LcL prog w A env h₀ L cs m cm led elt target ifs scope cl s (fun _ D h tk _ => Q (.ref D) { s with heap := h, toks := tk }) xv s₁ ∨
      LcR prog w A env h₀ L cs m cm led elt target ifs scope cl s (fun _ D h tk _ => Q (.ref D) { s with heap := h, toks := tk }) xv s₁) no s)
    (hs : ∀ x, foldedSetIterable iter env x = pure x := by intro _; rfl) : wpC (model prog w) A (eval (.ListComp elt [⟨target, iter, ifs, 0⟩] scope pos) env) Q E s := by
  rw [eval_ListComp]
  refine LC_parts (use := none) hA hclos hcell hkind hnames (fun D h tk ys hf₂ C oC m' S hn _ fin => ?_) h hs
  exact ⟨m', hn, fun h' hs' => fin h' tk (S.letC hn hs')⟩
theorem LC_assign {elt target iter : PySem.Expr} {ifs : List PySem.Expr} {y : Str} {py spos : Pos} {scope : Scope} {cl : List (Str × Addr)} {pos : Pos} {Q : Flow → Shared → Prop} (hL : env.locals = L)
    (hsw : swapsWith (.ListComp elt [⟨target, iter, ifs, 0⟩] scope pos) (some (.Name y py)) spos.line env = pure true) (hy : env.kindOf y = some .local) (hp : (env.scope.kind == .class || (env.scope.kind == .module && env.locals != env.globals)) = false)
    (hA : A.handled = none) (hclos : closureFor scope env = pure cl) (hcell : ∀ y ∈ scope.names, y.2 ≠ .cell) (hkind : scope.kind = .function) (hnames : ∀ y ∈ scope.names, y.2 = .local → scope.names.lookup y.1 = some .local)
    (h : wpC (model prog w) A (eval iter env) (fun xv s₁ =>
      LcL prog w A env h₀ L cs m cm led elt target ifs scope cl s (fun hf₂ D _ _ ys => ∀ h' tk', Ls h₀ L cs hf₂ h' (fun z => if z = y then some (.ref D) else m z) cm ((D, lst ys) :: led) → Q .next { s with heap := h', toks := tk' }) xv s₁ ∨
      LcR prog w A env h₀ L cs m cm led elt target ifs scope cl s (fun hf₂ D _ _ ys => ∀ h' tk', Ls h₀ L cs hf₂ h' (fun z => if z = y then some (.ref D) else m z) cm ((D, lst ys) :: led) → Q .next { s with heap := h', toks := tk' }) xv s₁) no s)
    (hs : ∀ x, foldedSetIterable iter env x = pure x := by intro _; rfl) : wpC (model prog w) A (exec (.Assign [.Name y py] (.ListComp elt [⟨target, iter, ifs, 0⟩] scope pos) spos) env) Q E s := by
  rw [exec_Assign_Name_used _ _ _ _ hsw]
  refine wpC_then (wpAny_standAt (wpC_bind ?_))
  show wpC _ A (do let _ ← comprehension (.ListComp elt [⟨target, iter, ifs, 0⟩] scope pos) scope env _ (newList []) false (eval iter env) (some (assign (.Name y py) env))) _ _ s
  refine wpC_bind (wpC_mono (LC_parts (Q := fun _ s' => Q .next s') (E := E) (use := some (assign (.Name y py) env)) hA hclos hcell hkind hnames (fun D g tk ys hf₂ C oC m' S hn S1 fin => ?_) h hs) (fun _ s' hq => wpC_pure (wpC_pure hq)) fun _ _ e => e)
  show wpAny _ A (assign (.Name y py) env (.ref D)) _ _ _
  subst hL
  refine wpAny_assign_Name (wpAny_storeName_local hy S.F.ns (fun h₂ hn₂ hs₂ => ?_) hp)
  have nC := S.N (C, oC) List.mem_cons_self
  have S₂ := S.setL hn₂ hs₂
  refine ⟨m', hn.sameBut hs₂ nC.2.1, fun h'' hs'' => ?_⟩
  exact fin g tk S1 h'' _ (S₂.letC (hn.sameBut hs₂ nC.2.1) hs'')
noncomputable def DcL (prog : Program) (w : World) (A : Around) (env : Env) (h₀ : Heap) (L : Addr) (cs : List (Str × Addr)) (m cm : Str → Option Value) (led : List (Addr × Obj)) (kx vx target : PySem.Expr) (scope : Scope) (cl : List (Str × Addr)) (s : Shared)
    (Q : Value → Shared → Prop) (xv : Value) (s₁ : Shared) : Prop :=
  ∃ (ax : Addr) (vs : List Value) (hf₁ h : Heap) (tk : Nat) (pm : Nat → Value → (Str → Option Value) → Prop) (key : Nat → Str) (val : Nat → Value), xv = .ref ax ∧ s₁ = { s with heap := h, toks := tk } ∧ Ls h₀ L cs hf₁ h m cm led ∧ hf₁.IsList ax (List.toArray vs) ∧ vs.length ≤ 1000 ∧
    (∀ I C, AsgOk prog w A (compEnvC scope cl C env) target I (fun i v => (List.toArray vs)[i]? = some v) (fun i h => h.IsListIter I ax i ∧ h.IsList ax (List.toArray vs)) hf₁ pm) ∧
    (∀ i v C m₂ (s : Shared), (List.toArray vs)[i]? = some v → i < vs.length → pm i v m₂ → s.heap.Ns C m₂ →
      wpAny (model prog w) A (eval kx (compEnvC scope cl C env)) (fun a s' => (∃ u, a = .str (key i) u) ∧ s' = s) no s ∧ wpAny (model prog w) A (eval vx (compEnvC scope cl C env)) (fun b s' => b = val i ∧ s' = s) no s) ∧
    (∀ D h tk f oD, Ls h₀ L cs hf₁ h m cm ((D, oD) :: led) → h.MapOf (PySem.strKind prog w) D f → (∀ j, j < vs.length → ∃ j', j' < vs.length ∧ key j' = key j ∧ f (key j) = some (val j')) → Q (.ref D) { s with heap := h, toks := tk })
theorem DC_eval {kx vx target iter : PySem.Expr} {scope : Scope} {cl : List (Str × Addr)} {pos : Pos} {Q : Value → Shared → Prop}
    (hA : A.handled = none) (hclos : closureFor scope env = pure cl) (hcell : ∀ y ∈ scope.names, y.2 ≠ .cell) (hkind : scope.kind = .function) (hnames : ∀ y ∈ scope.names, y.2 = .local → scope.names.lookup y.1 = some .local)
    (h : wpC (model prog w) A (eval iter env) (DcL prog w A env h₀ L cs m cm led kx vx target scope cl s Q) no s)
    (hs : ∀ x, foldedSetIterable iter env x = pure x := by intro _; rfl) : wpC (model prog w) A (eval (.DictComp kx vx [⟨target, iter, [], 0⟩] scope pos) env) Q E s := by
  rw [arm_eval_DictComp]
  refine C_comprehension (use := none) (g := ⟨target, iter, [], 0⟩) (gs := []) rfl hs hclos hkind hnames (wpC_mono h (fun xv s₁ h₁ => ?_) fun _ _ q => q)
  obtain ⟨ax, vs, hf₁, h₁, tk₁, pm, key, val, rfl, rfl, S, hl, hsz, asg, turn, fin⟩ := h₁
  have hl₁ : h₁.IsList ax (List.toArray vs) := isList_keeps hl S.K
  have hlt : ax < h₁.objs.size := by obtain ⟨_, e, _⟩ := hl₁; exact Heap.lt_size e
  refine wpAny_pyIter_list hl₁ ?_
  have up : h₁.StaysIn (h₁.push { cls := .type "list_iterator", data := .fields #[.ref ax, .int 0 0] }) := fun b o e => Heap.get?_push_of_some _ e
  have hfr : h₁.get? h₁.objs.size = none := by
    cases e : h₁.get? h₁.objs.size with
    | none => rfl
    | some o => exact absurd (Heap.lt_size e) (Nat.lt_irrefl _)
  have W := Walks.list (prog := prog) (w := w) hA h₁.objs.size ax (Nat.ne_of_lt hlt) (List.toArray vs)
  have hz : (List.toArray vs).size = vs.length := by simp
  rw [hz] at W
  refine DC_block (S := S.new up hfr (Heap.get?_push_size _ rfl)) key val W hsz (fun i h st => by obtain ⟨o, e, _⟩ := st.1; exact ⟨o, e⟩) (fun i h h' o st e e' k => ⟨by obtain ⟨o', q, r⟩ := st.1; rw [e] at q; cases q; exact ⟨o, e', r⟩, isList_keeps hl k⟩)
    hcell hkind ⟨⟨_, Heap.get?_push_size _ rfl, rfl, rfl⟩, isList_keeps hl₁ up⟩ (fun b hb => ?_) (fun C => asg _ C) turn ?_
  · show b < (h₁.push _).objs.size
    rw [Heap.size_push]
    rcases List.mem_cons.mp hb with rfl | hb
    · exact Nat.lt_succ_self _
    · rw [List.mem_singleton.mp hb]; exact Nat.lt_succ_of_lt hlt
  · intro D C h tk m' f oC oD S' hm hf hn
    refine ⟨m', hn, fun h' hs' => ?_⟩
    have nC := S'.D
    rw [List.map_cons, List.nodup_cons] at nC
    exact fin D h' tk f oD (S'.letC hn hs') (hm.sameBut hs' fun q => nC.1 (by simp [← q])) hf
end
end Lce

section Lw1
open TI LCg
theorem news_pick2 {h₀ h : Heap} {L : Addr} {l : List (Addr × Obj)} {p q r : Addr × Obj} (N : News h₀ L h (p :: q :: r :: l)) : News h₀ L h (p :: l) := fun x hx => N x (by
  rcases List.mem_cons.mp hx with h | h
  · simp [h]
  · simp [h])
local macro_rules | `(tactic| walk_at "eval Name") => `(tactic| (k_here; k_dflt (refine' ldLoc ?k1 ?k2 ?_; (case k1 => k_asm); (case k2 => first | exact rfl | assumption); k_whole)))
noncomputable def lawEnv (L fa : Addr) (cd : Value) : Env := envOfC "law" (fnScope (topS 13)) L fa cd
noncomputable def lawCs (L : Addr) : List (Str × Addr) := cellsFrom (L + 1) (fnScope (topS 13)).names []
noncomputable def AL (L fa : Addr) (cd : Value) : Around := callerA.deeper (lawEnv L fa cd)
theorem al_room (e : Env) {n : Nat} (h : n ≤ 60) : (callerA.deeper e).depth + n < recursionLimit := by
  have : callerA.depth + 1 + 60 < recursionLimit := by decide
  show callerA.depth + 1 + n < _
  omega
theorem al_units (e : Env) {n : Nat} (h : n ≤ 500) : (callerA.deeper e).units + n < cLine := by
  have : callerA.units + 3 + 500 < cLine := by decide
  show callerA.units + 3 + n < _
  omega
theorem lawCs_eq (L : Addr) : lawCs L = [(("old" : Str), L + 1 + 1 + 1 + 1 + 1 + 1), (("k" : Str), L + 1 + 1 + 1 + 1 + 1), (("row" : Str), L + 1 + 1 + 1 + 1), (("names" : Str), L + 1 + 1 + 1), (("ranks" : Str), L + 1 + 1), (("texts" : Str), L + 1)] := rfl
noncomputable def allOf (h₀ : Heap) (L : Addr) (h : Heap) : List (Addr × Obj) := (List.range h.objs.size).filterMap fun b => if b = L then none else match h₀.get? b with | some _ => none | none => (h.get? b).map fun o => (b, o)
theorem mem_allOf {h₀ h : Heap} {L b : Addr} {o : Obj} : (b, o) ∈ allOf h₀ L h ↔ b ≠ L ∧ h₀.get? b = none ∧ h.get? b = some o := by
  unfold allOf
  rw [List.mem_filterMap]
  constructor
  · rintro ⟨a, _, e⟩
    by_cases ha : a = L
    · rw [if_pos ha] at e; cases e
    · rw [if_neg ha] at e
      cases h1 : h₀.get? a with
      | some x => rw [h1] at e; cases e
      | none =>
        rw [h1] at e
        cases h2 : h.get? a with
        | none => simp [h2] at e
        | some x =>
          simp [h2] at e
          obtain ⟨rfl, rfl⟩ := e
          exact ⟨ha, h1, h2⟩
  · rintro ⟨h1, h2, h3⟩
    refine ⟨b, List.mem_range.mpr (Heap.lt_size h3), ?_⟩
    rw [if_neg h1, h2, h3]
    rfl
section
variable {h₀ hf h h' : Heap} {L : Addr} {cs : List (Str × Addr)} {m m' cm : Str → Option Value} {led l : List (Addr × Obj)}
/-- the whole heap as a ledger, for the walker -/
theorem Ls.all (_S : Ls h₀ L cs hf h m cm led) : News h₀ L h (allOf h₀ L h) := fun p hp => by
  obtain ⟨a, b, c⟩ := mem_allOf.mp hp
  exact ⟨c, a, b⟩
theorem Ls.walked (S : Ls h₀ L cs hf h m cm led) (F : Fr h₀ L h' m') (N : News h₀ L h' (allOf h₀ L h)) : Ls h₀ L cs hf h' m' cm led ∧ ∀ b o, b ≠ L → h.get? b = some o → h'.get? b = some o := by
  have k : ∀ b o, b ≠ L → h.get? b = some o → h'.get? b = some o := fun b o hb e => by
    cases h1 : h₀.get? b with
    | some x =>
      have := S.K _ _ (S.O _ _ h1)
      rw [e] at this
      obtain rfl := Option.some.inj this
      exact F.keep _ _ h1
    | none => exact (N (b, o) (mem_allOf.mpr ⟨hb, h1, e⟩)).1
  exact ⟨S.butL k F.ns, k⟩
/-- a new list or tuple, frozen -/
theorem Ls.frz_seq {a : Addr} {o : Obj} {its : Array Value} {n : Nat} (S : Ls h₀ L cs hf h m cm led) (e : h.get? a = some o) (hd : o.data = .seq its n) (hl : a ∉ led.map (·.1)) : (Mine.frz h L cs led).get? a = some o := by
  refine frz_get e (fun q => ?_) (fun nn c hc q => ?_) hl
  · obtain ⟨o', es, ep, ho, hd', _⟩ := S.F.ns
    rw [← q, e] at ho
    obtain rfl := Option.some.inj ho
    rw [hd] at hd'; cases hd'
  · obtain ⟨o', ho, hd'⟩ := S.cell hc
    rw [q, e] at ho
    obtain rfl := Option.some.inj ho
    rw [hd] at hd'; cases hd'
end
theorem SunRd.keeps {h h' : Heap} {v : Value} {n k : Nat} (x : SunRd h v n k) (st : h.StaysIn h') : SunRd h' v n k := by
  obtain ⟨a, t, t1, lp, nm, t2, e, h1, h2, h3, h4, h5⟩ := x
  exact ⟨a, t, t1, lp, nm, t2, e, isTuple_keeps h1 st, h2, LvOk.zero.tuple.list.keeps h3 st, h4, h5⟩
section
variable {M : Model} {A : Around} {E : Value → Shared → Prop} {s : Shared} {env : Env} {scope : Scope} {cl : List (Str × Addr)} {C : Addr} {m : Str → Option Value} {x : Str} {pos : Pos} {v : Value} {Q : Value → Shared → Prop}
theorem nmG {w : World} {mg mb : Str → Option Value} {h₀ : Heap} (G : Gr w mg mb h₀) (k : h₀.StaysIn s.heap) (hm : mg x = some v) (h : Q v s) (hg : env.globals = mainGlobals) (hk : env.scope.kind = .function) (hx : env.kindOf x = some .globalImplicit) (hd : (x == ("__debug__" : Str)) = false) :
    wpAny M A (eval (.Name x pos) env) Q E s := Name_function_global hk hx (loadGlobal_global (env := env) (by rw [hg]; exact G.T.g.keeps k) hm h) hd
theorem nmL (hn : s.heap.Ns C m) (hv : m x = some v) (h : Q v s) (hk : (compEnvC scope cl C env).scope.kind = .function) (hl : (compEnvC scope cl C env).kindOf x = some .local) (hd : (x == ("__debug__" : Str)) = false) :
    wpAny M A (eval (.Name x pos) (compEnvC scope cl C env)) Q E s := wpAny_Name (wpAny_loadName_local hk hl hn hv h) hd
theorem nmC {c : Addr} (hc : cl.lookup x = some c) (hcell : s.heap.IsCell c (some v)) (h : Q v s) (hk : (compEnvC scope cl C env).scope.kind = .function) (hl : (compEnvC scope cl C env).kindOf x = some .cell) (hd : (x == ("__debug__" : Str)) = false) :
    wpAny M A (eval (.Name x pos) (compEnvC scope cl C env)) Q E s := wpAny_Name (wpAny_loadName_cell hk hl hc hcell h) hd
end
theorem asg_name {prog : Program} {w : World} {A : Around} {cenv : Env} {x : Str} {px : Pos} {I : Addr} {P : Nat → Value → Prop} {St : Nat → Heap → Prop} {hf : Heap} (hx : cenv.kindOf x = some .local) (hp : (cenv.scope.kind == .class || (cenv.scope.kind == .module && cenv.locals != cenv.globals)) = false) :
    AsgOk prog w A cenv (.Name x px) I P St hf (fun _ v m => m x = some v) := by
  intro i v s m₁ Q hP hst hk hn h
  show wpAny _ _ (pure ()) _ _ _
  refine wpAny_pure (wpAny_assign_Name (wpAny_storeName_local hx hn (fun h' hn' hs => ?_) hp))
  exact h h' _ _ (fun b o hb e => (hs.2 b hb).trans e) hn' (by simp)
section
variable {w : World} {mg mb : Str → Option Value} {h : Heap}
theorem mg_44 (G : Gr w mg mb h) : mg "_comparable_version" = some (.ref 44) := mg_of G.X G.T.g (by k_is)
theorem mg_51 (G : Gr w mg mb h) : mg "system_alias" = some (.ref 51) := mg_of G.X G.T.g (by k_is)
theorem mg_60 (G : Gr w mg mb h) : mg "insort_right" = some (.ref 60) := mg_of G.X G.T.g (by k_is)
theorem mg_69 (G : Gr w mg mb h) : mg "bisect_right" = some (.ref 69) := mg_of G.X G.T.g (by k_is)
theorem mg_78 (G : Gr w mg mb h) : mg "bisect_left" = some (.ref 78) := mg_of G.X G.T.g (by k_is)
theorem mg_85 (G : Gr w mg mb h) : mg "_law_sun" = some (.ref 85) := mg_of G.X G.T.g (by k_is)
theorem mg_92 (G : Gr w mg mb h) : mg "_law_renamed" = some (.ref 92) := mg_of G.X G.T.g (by k_is)
end
noncomputable def IntV (v : Value) : Prop := ∃ n t, v = .int n t
theorem intV_of {vs : List Value} {ns : List Int} (h : IntsAre vs ns) : ∀ v ∈ vs, IntV v := h.all
/-- an item of the law's suns -/
noncomputable def Sun1 (hn : Heap) (v : Value) (d : Nat × Nat) : Prop := SunRd hn v d.1 d.2 ∧ 1 ≤ d.1 ∧ d.1 ≤ 999 ∧ d.2 < 7
noncomputable def It1 (h₀ : Heap) (L : Addr) (al : List (Addr × Obj)) (m : Str → Option Value) (s : Shared) (v : Value) (s' : Shared) : Prop :=
  ∃ a its nn h tk, v = .ref a ∧ s' = { s with heap := h, toks := tk } ∧ Fr h₀ L h m ∧ News h₀ L h ((a, W.listOf its nn) :: al) ∧ 6 ≤ its.toList.length ∧ its.toList.length ≤ 10 ∧ ∀ v ∈ its.toList, IntV v
noncomputable def R1 (h₀ : Heap) (L : Addr) (hf : Heap) (cm : Str → Option Value) (s : Shared) (s' : Shared) : Prop :=
  ∃ h tk hf' m' a us D, s' = { s with heap := h, toks := tk } ∧ Ls h₀ L (lawCs L) hf' h m' cm [] ∧ hf.StaysIn hf' ∧ m' "suns" = some (.ref a) ∧ hf'.IsList a (List.toArray us) ∧ 6 ≤ us.length ∧ us.length ≤ 10 ∧ All2 (Sun1 hf') us D
theorem law_1 {prog : Program} {w : World} {s : Shared} {mg mb : Str → Option Value} {h₀ hf : Heap} {L fa sl : Addr} {cd : Value} {m cm : Str → Option Value} {vs : List Value} {ns : List Int}
    (G : Gr w mg mb h₀) (S : Ls h₀ L (lawCs L) hf s.heap m cm []) (ms : m "script" = some (.ref sl)) (hl : h₀.IsList sl (List.toArray vs)) (hi : IntsAre vs ns) (hz : vs.length ≤ 63) :
    wpC (model prog w) (AL L fa cd) (exec (stOf 13 0) (lawEnv L fa cd)) (NextR (R1 h₀ L hf cm s)) no s := by
  show wpC _ (Around.deeper _ (envOfC _ (Scope.mk _ _ _ _ _) _ _ _)) (exec (Stmt.Assign [PySem.Expr.Name _ _] (PySem.Expr.ListComp _ [⟨PySem.Expr.Name _ _, _, _, 0⟩] (Scope.mk _ _ _ _ _) _) _) (envOfC _ (Scope.mk _ _ _ _ _) _ _ _)) _ _ _
  obtain ⟨X, T⟩ := id G
  refine LC_assign (h₀ := h₀) (L := L) (cs := lawCs L) (m := m) (cm := cm) (led := []) (cl := []) rfl ?sw rfl rfl rfl ?clos (by decide) rfl ?nm ?_
  case sw => exact rfl
  case clos => exact rfl
  case nm => decide
  refine wpC_mono (Q := It1 h₀ L (allOf h₀ L s.heap) m s) (wpC_of ?_) (fun xv s₁ h₁ => .inl ?_) fun _ _ q => q
  · have F := S.F
    have N := S.all
    generalize allOf h₀ L s.heap = al at N ⊢
    show wpAny _ _ _ _ _ _
    k_fold
    walk_at "mine steps"
    (with_reducible rename Fr _ _ _ _ => F₃)
    (with_reducible rename News _ _ _ _ => N₃)
    (rename (IntsAre _ ([93, 499, 1765, 159, 28, 78] ++ List.take 4 ns)) => hI)
    have hlen : ([93, 499, 1765, 159, 28, 78] ++ List.take 4 ns).length = 6 + min 4 ns.length := by simp; omega
    refine ⟨_, _, 0, _, _, rfl, rfl, F₃, news_pick2 N₃, ?_, ?_, ?_⟩
    · rw [List.toList_toArray, hI.length, hlen]; omega
    · rw [List.toList_toArray, hI.length, hlen]; omega
    · rw [List.toList_toArray]; exact intV_of hI
  · obtain ⟨a, its, nn, h₁, tk₁, rfl, rfl, F₁, N₁, z1, z2, hint⟩ := h₁
    obtain ⟨S₁, _⟩ := S.walked F₁ fun p hp => N₁ p (List.mem_cons_of_mem _ hp)
    have ha : (frz h₁ L (lawCs L) []).IsList a (List.toArray its.toList) := ⟨_, S₁.frz_seq (N₁ (a, _) List.mem_cons_self).1 rfl (by simp), rfl, nn, by simp⟩
    obtain ⟨oc, od, fd, osl, h85⟩ := fn_85 w
    refine ⟨a, its.toList, frz h₁ L (lawCs L) [], h₁, tk₁, _, fun i ys hf' => ys.length = i ∧ ∃ D, All2 (Sun1 hf') ys D, rfl, rfl, S₁.frz, ha, by omega, ⟨rfl, [], .nil⟩, fun I C => asg_name rfl rfl, ?_, ?_⟩
    · rintro i v ys hf₂ h tk I oI C oC D m₂ hv hi hff ⟨hlen, Ds, hall⟩ S₂ hn hpm
      refine T_nil ?_
      rw [if_pos rfl]
      refine C_Call_fn (f := 85) (o := ⟨oc, od, .func fd, osl⟩) rfl (nmG G S₂.F.keep (mg_85 G) ⟨rfl, ?_⟩ rfl rfl rfl (by decide))
      refine C_args_cons (wpC_of (nmL hn hpm ?_ rfl rfl (by decide)))
      refine C_args_nil (C_kws_nil ⟨S₂.F.keep _ _ (X _ _ h85), ?_⟩)
      obtain ⟨n, t, rfl⟩ := hint v (by
        have := List.mem_of_getElem? (l := its.toList) (i := i) (a := v) (by simpa using hv)
        exact this)
      refine sun_call (G.keeps S₂.F.keep) (al_room _ (by decide)) (al_units _ (by decide)) rfl fun v' h' tk' n k h1 h2 h3 st rd => ?_
      have S₃ := S₂.keeps st
      refine ⟨h', tk', _, rfl, S₃.frzS, ⟨by simp [hlen], Ds ++ [(n, k)], (hall.mono fun x d q => ⟨q.1.keeps S₃.frzS, q.2⟩).app (.cons ⟨rd.keeps S₂.frz_part, h1, h2, h3⟩ .nil)⟩, S₃.frz⟩
    · rintro D h tk ys hf₂ hff ⟨hlen, Ds, hall⟩ S₂ h' tk' S₃
      have S₄ := S₃.drop1.frz
      have hst := S₃.drop1.frzS
      have hDl : (frz h' L (lawCs L) []).IsList D (List.toArray ys) := ⟨_, S₃.drop1.frz_seq (S₃.N (D, _) List.mem_cons_self).1 rfl (by simp), rfl, ys.length, rfl⟩
      refine ⟨rfl, h', tk', _, _, D, ys, Ds, rfl, S₄, fun b o e => hst _ _ (hff _ _ (S₁.frzS _ _ e)), if_pos rfl, hDl, by omega, by omega, hall.mono fun x d q => ⟨q.1.keeps hst, q.2⟩⟩
end Lw1

section Lw2
open TI LCg
theorem asg_tup3 {prog : Program} {w : World} {A : Around} {cenv : Env} {a b c : Str} {pa pb pc tp : Pos} {kk : Nat} {I ax : Addr} {vs : List Value} {hf : Heap} (hA : A.handled = none)
    (ha : cenv.kindOf a = some .local) (hb : cenv.kindOf b = some .local) (hc : cenv.kindOf c = some .local) (hp : (cenv.scope.kind == .class || (cenv.scope.kind == .module && cenv.locals != cenv.globals)) = false)
    (hab : a ≠ b) (hac : a ≠ c) (hbc : b ≠ c) (ht : ∀ v ∈ vs, ∃ T x y z, v = .ref T ∧ hf.IsTuple T #[x, y, z]) :
    AsgOk prog w A cenv (.Tuple [.Name a pa, .Name b pb, .Name c pc] kk tp) I (fun i v => (List.toArray vs)[i]? = some v) (fun i h => h.IsListIter I ax i ∧ h.IsList ax (List.toArray vs)) hf
      (fun _ v m => ∃ T x y z, v = .ref T ∧ hf.IsTuple T #[x, y, z] ∧ m a = some x ∧ m b = some y ∧ m c = some z) := by
  intro i v s m₁ Q hP hst hk hn h
  obtain ⟨T, x, y, z, rfl, hT⟩ := ht v (List.mem_of_getElem? (l := vs) (i := i) (by simpa using hP))
  refine wpAny_letOwnedTupleGo_listiter hst.1 ?_
  refine wpAny_assign_Tuple hA (isTuple_keeps hT hk) rfl rfl fun h₁ he₁ => ?_
  have hL : cenv.locals ≠ s.heap.objs.size := Nat.ne_of_lt hn.lt
  have hn₁ : h₁.Ns cenv.locals m₁ := hn.at' fun o e => he₁ _ o hL e
  have up₁ : ∀ c o, s.heap.get? c = some o → h₁.get? c = some o := fun c o e => he₁ c o (Nat.ne_of_lt (Heap.lt_size e)) e
  show wpAny _ _ (assignInOrder [assign (.Name a pa) cenv, assign (.Name b pb) cenv, assign (.Name c pc) cenv] [x, y, z]) _ _ _
  refine assignInOrder_cons ?_
  refine wpAny_assign_Name (wpAny_storeName_local ha hn₁ (fun h₂ hn₂ hs₂ => ?_) hp)
  refine assignInOrder_cons ?_
  refine wpAny_assign_Name (wpAny_storeName_local hb hn₂ (fun h₃ hn₃ hs₃ => ?_) hp)
  refine assignInOrder_cons ?_
  refine wpAny_assign_Name (wpAny_storeName_local hc hn₃ (fun h₄ hn₄ hs₄ => ?_) hp)
  refine assignInOrder_nil ?_
  exact h h₄ _ _ (fun c o hc e => hs₄.extBut c o hc (hs₃.extBut c o hc (hs₂.extBut c o hc (up₁ c o e)))) hn₄ ⟨T, x, y, z, rfl, hT, by simp [hab, hac], by simp [hbc], by simp⟩
/-- a cell is set -/
theorem Ls.stC {prog : Program} {w : World} {A : Around} {E : Value → Shared → Prop} {s : Shared} {h₀ hf : Heap} {L fa : Addr} {cd : Value} {m cm : Str → Option Value} {led : List (Addr × Obj)} {x : Str} {c : Addr} {v : Value} {Q : Unit → Shared → Prop} {name : Str} {scope : Scope}
    (S : Ls h₀ L (cellsFrom (L + 1) scope.names []) hf s.heap m cm led) (hc : (cellsFrom (L + 1) scope.names []).lookup x = some c) (hk : scope.kind = .function) (hl : (envOfC name scope L fa cd).kindOf x = some .cell)
    (h : ∀ h', Ls h₀ L (cellsFrom (L + 1) scope.names []) hf h' m (fun y => if y = x then some v else cm y) led → (∀ b o, b ≠ c → s.heap.get? b = some o → h'.get? b = some o) → Q () { s with heap := h' }) :
    wpAny (model prog w) A (storeName (envOfC name scope L fa cd) x v) Q E s :=
  wpAny_storeName_cell hk hl hc (S.C.cell x c hc) fun h' hv hs => h h' (S.setC hc hv hs) fun b o hb e => (hs.2 b hb).trans e
noncomputable def TxtV (v : Value) (d : Nat × Nat) : Prop := ∃ t u, v = .str t u ∧ IsT t d.1 d.2
noncomputable def Dok (D : List (Nat × Nat)) : Prop := 6 ≤ D.length ∧ D.length ≤ 10 ∧ ∀ d ∈ D, 1 ≤ d.1 ∧ d.1 ≤ 999 ∧ d.2 < 7
noncomputable def R2 (h₀ : Heap) (L : Addr) (hf : Heap) (m : Str → Option Value) (s : Shared) (D : List (Nat × Nat)) (s' : Shared) : Prop :=
  ∃ h tk hf' cm' aT vsT, s' = { s with heap := h, toks := tk } ∧ Ls h₀ L (lawCs L) hf' h m cm' [] ∧ hf.StaysIn hf' ∧ cm' "texts" = some (.ref aT) ∧ hf'.IsList aT (List.toArray vsT) ∧ All2 TxtV vsT D
theorem tup_of {hf : Heap} {us : List Value} {D : List (Nat × Nat)} (h : All2 (Sun1 hf) us D) : ∀ v ∈ us, ∃ T x y z, v = .ref T ∧ hf.IsTuple T #[x, y, z] := by
  induction h with
  | nil => intro v hv; cases hv
  | cons h _ ih =>
    intro v hv
    rcases List.mem_cons.mp hv with rfl | hv
    · obtain ⟨⟨a, t, t1, lp, nm, t2, e, h1, _⟩, _⟩ := h
      exact ⟨a, _, _, _, e, h1⟩
    · exact ih v hv
theorem law_2 {prog : Program} {w : World} {s : Shared} {h₀ hf : Heap} {L fa a : Addr} {cd : Value} {m cm : Str → Option Value} {us : List Value} {D : List (Nat × Nat)}
    (S : Ls h₀ L (lawCs L) hf s.heap m cm []) (ms : m "suns" = some (.ref a)) (hl : hf.IsList a (List.toArray us)) (hd : All2 (Sun1 hf) us D) (hz : us.length ≤ 10) :
    wpC (model prog w) (AL L fa cd) (exec (stOf 13 1) (lawEnv L fa cd)) (NextR (R2 h₀ L hf m s D)) no s := by
  show wpC _ (Around.deeper _ (envOfC _ (Scope.mk _ _ _ _ _) _ _ _)) (exec (Stmt.Assign [PySem.Expr.Name _ _] (PySem.Expr.ListComp _ [⟨PySem.Expr.Tuple [PySem.Expr.Name _ _, PySem.Expr.Name _ _, PySem.Expr.Name _ _] _ _, _, _, 0⟩] (Scope.mk _ _ _ _ _) _) _) (envOfC _ (Scope.mk _ _ _ _ _) _ _ _)) _ _ _
  refine C_Assign_Name (hs := rfl) ?_
  refine LC_eval (h₀ := h₀) (L := L) (cs := lawCs L) (m := m) (cm := cm) (led := []) (cl := []) rfl ?clos (by decide) rfl ?nm ?_
  case clos => exact rfl
  case nm => decide
  refine wpC_of (ldLoc S.F ms (.inl ?_))
  refine ⟨a, us, hf, s.heap, s.toks, _, fun i ys _ => All2 TxtV ys (D.take i), rfl, rfl, S, hl, by omega, .nil, fun I C => asg_tup3 rfl rfl rfl rfl rfl (by decide) (by decide) (by decide) (tup_of hd), ?_, ?_⟩
  · rintro i v ys hf₂ h tk I oI C oC D' m₂ hv hi hff hall S₂ hn ⟨T, x, y, z, rfl, hT, m1, m2, m3⟩
    refine T_nil ?_
    rw [if_pos rfl]
    refine wpC_of (nmL hn m1 ?_ rfl rfl (by decide))
    refine ⟨h, tk, hf₂, rfl, fun _ _ e => e, ?_, S₂⟩
    obtain ⟨d, hd', hs⟩ := hd.at (i := i) (a := .ref T) (by simpa using hv)
    obtain ⟨⟨a', t, t1, lp, nm, t2, e, h1, h2, _⟩, _⟩ := hs
    injection e with e
    subst e
    have q := isTuple_det hT h1
    have q1 : x = .str t t1 := by simpa using congrArg (fun l => l.toList.head?) q
    rw [List.take_add_one, hd']
    exact hall.app (.cons ⟨t, t1, q1, h2⟩ .nil)
  · rintro D' h tk ys hf₂ hff hall S₂
    refine Ls.stC S₂ (c := L + 1) rfl rfl rfl fun h' S₃ k => ?_
    have hl' : us.length = D.length := hd.len
    rw [hl', List.take_length] at hall
    have S₄ := S₃.drop1.frz
    refine ⟨rfl, h', tk, _, _, D', ys, rfl, S₄, fun b o e => S₃.drop1.frzS _ _ (hff _ _ e), if_pos rfl, ⟨_, S₃.drop1.frz_seq (S₃.N (D', _) List.mem_cons_self).1 rfl (by simp), rfl, ys.length, rfl⟩, hall⟩
end Lw2

section Lw3
open TI LCg
theorem dig_split : ∀ {a b c d : List Nat}, (∀ x ∈ a, digB x = true) → (∀ x ∈ c, digB x = true) → (∀ x, b.head? = some x → digB x = false) → (∀ x, d.head? = some x → digB x = false) → a ++ b = c ++ d → a = c ∧ b = d
  | [], b, [], d, _, _, _, _, h => ⟨rfl, h⟩
  | [], b, y :: c, d, _, h2, h3, _, h => by
    have : b.head? = some y := by rw [List.nil_append] at h; rw [h]; rfl
    have e := h3 y this
    rw [h2 y List.mem_cons_self] at e; cases e
  | x :: a, b, [], d, h1, _, _, h4, h => by
    have : d.head? = some x := by rw [List.nil_append] at h; rw [← h]; rfl
    have e := h4 x this
    rw [h1 x List.mem_cons_self] at e; cases e
  | x :: a, b, y :: c, d, h1, h2, h3, h4, h => by
    simp only [List.cons_append, List.cons.injEq] at h
    obtain ⟨rfl, h⟩ := h
    obtain ⟨rfl, rfl⟩ := dig_split (fun z hz => h1 z (List.mem_cons_of_mem _ hz)) (fun z hz => h2 z (List.mem_cons_of_mem _ hz)) h3 h4 h
    exact ⟨rfl, rfl⟩
theorem bh_head {k : Nat} (hk : k < 7) : ∀ x, (bh k).head? = some x → digB x = false := by
  match k, hk with
  | 0, _ => intro x h; cases h
  | 1, _ | 2, _ | 3, _ | 4, _ => intro x h; obtain rfl : 46 = x := by simpa [bh] using h
                                 decide
  | 5, _ => intro x h; obtain rfl : 45 = x := by simpa [bh] using h
            decide
  | 6, _ => intro x h; obtain rfl : 98 = x := by simpa [bh] using h
            decide
theorem dg_inj {n n' : Nat} (h : n < 10000) (h' : n' < 10000) (e : dg n = dg n') : n = n' := by
  have a := dg_reads h
  rw [e, dg_reads h'] at a
  have := Option.some.inj a
  omega
theorem bh_inj : ∀ {k k' : Nat}, k < 7 → k' < 7 → bh k = bh k' → k = k' := by
  have : ∀ k, k < 7 → ∀ k', k' < 7 → bh k = bh k' → k = k' := by decide
  exact fun {k k'} h h' e => this k h k' h' e
theorem isT_inj {t : Str} {n k n' k' : Nat} (h : IsT t n k) (h' : IsT t n' k') (hn : n < 10000) (hn' : n' < 10000) (hk : k < 7) (hk' : k' < 7) : n = n' ∧ k = k' := by
  unfold IsT at h h'
  rw [h] at h'
  obtain ⟨e1, e2⟩ := dig_split (dg_dig n) (dg_dig n') (bh_head hk) (bh_head hk') h'
  exact ⟨dg_inj hn hn' e1, bh_inj hk hk' e2⟩
theorem isT_eq {t t' : Str} {n k : Nat} (h : IsT t n k) (h' : IsT t' n k) : t = t' := by
  unfold IsT at h h'
  cases t; cases t'
  simp only [Str.mk.injEq]
  exact Array.toList_inj.mp (h.trans h'.symm)
noncomputable def tupAt (hf : Heap) (v : Value) : Array Value := match v with
  | .ref a => match hf.get? a with
    | some o => match o.data with
      | .seq its _ => its
      | _ => #[]
    | none => #[]
  | _ => #[]
theorem tupAt_of {hf : Heap} {a : Addr} {its : Array Value} (h : hf.IsTuple a its) : tupAt hf (.ref a) = its := by
  obtain ⟨o, ho, _, n, hd⟩ := h
  unfold tupAt
  simp only [ho, hd]
noncomputable def keyAt (hf : Heap) (us : List Value) (i : Nat) : Str := match (tupAt hf (us.getD i .none)).getD 0 .none with | .str t _ => t | _ => ⟨#[]⟩
noncomputable def valAt (hf : Heap) (us : List Value) (j i : Nat) : Value := (tupAt hf (us.getD i .none)).getD j .none
theorem sun_at {hf : Heap} {us : List Value} {D : List (Nat × Nat)} (h : All2 (Sun1 hf) us D) {i : Nat} (hi : i < us.length) : ∃ d T t1 lp nm t2, D[i]? = some d ∧ us[i]? = some (.ref T) ∧ hf.IsTuple T #[.str (keyAt hf us i) t1, .ref lp, .str nm t2] ∧ valAt hf us 1 i = .ref lp ∧ valAt hf us 2 i = .str nm t2 ∧
    IsT (keyAt hf us i) d.1 d.2 ∧ Lv.zero.tuple.list.rd hf (.ref lp) ([.num 100, .num d.1] :: flp d.2) ∧ (d.2 < 5 → 3 ≤ d.1 → IsT nm (d.1 - 3) d.2) ∧ (5 ≤ d.2 → IsT nm d.1 d.2) ∧ 1 ≤ d.1 ∧ d.1 ≤ 999 ∧ d.2 < 7 := by
  obtain ⟨d, hd, ⟨a, t, t1, lp, nm, t2, e, h1, h2, h3, h4, h5⟩, h6, h7, h8⟩ := h.get i hi
  have hu : us.getD i .none = .ref a := by rw [List.getD_eq_getElem?_getD, List.getElem?_eq_getElem hi, e]; rfl
  have hk : keyAt hf us i = t := by
    unfold keyAt
    rw [hu, tupAt_of h1]
    rfl
  have hv : ∀ j, valAt hf us j i = (#[.str t t1, .ref lp, .str nm t2] : Array Value).getD j .none := fun j => by
    unfold valAt
    rw [hu, tupAt_of h1]
  refine ⟨d, a, t1, lp, nm, t2, hd, by rw [List.getElem?_eq_getElem hi, e], by rw [hk]; exact h1, hv 1, hv 2, by rw [hk]; exact h2, h3, h4, h5, h6, h7, h8⟩
/-- what a dict of the law's tells, by a release's text -/
noncomputable def DictOk (f : Str → Option Value) (D : List (Nat × Nat)) (P : Value → Nat × Nat → Prop) : Prop := ∀ d ∈ D, ∀ t, IsT t d.1 d.2 → ∃ v, f t = some v ∧ P v d
theorem dict_ok {hf : Heap} {us : List Value} {D : List (Nat × Nat)} (h : All2 (Sun1 hf) us D) {f : Str → Option Value} {val : Nat → Value} {P : Value → Nat × Nat → Prop} (hP : ∀ i d, D[i]? = some d → i < us.length → P (val i) d)
    (hf' : ∀ j, j < us.length → ∃ j', j' < us.length ∧ keyAt hf us j' = keyAt hf us j ∧ f (keyAt hf us j) = some (val j')) : DictOk f D P := by
  intro d hd t ht
  obtain ⟨j, hj, rfl⟩ := List.mem_iff_getElem.mp hd
  have hju : j < us.length := by rw [h.len]; exact hj
  obtain ⟨d₁, T, t1, lp, nm, t2, e1, e2, e3, e4, e5, e6, e7, e8, e9, e10, e11, e12⟩ := sun_at h hju
  rw [List.getElem?_eq_getElem hj] at e1
  obtain rfl := Option.some.inj e1
  obtain ⟨j', hj', hk, hfv⟩ := hf' j hju
  have : t = keyAt hf us j := isT_eq ht e6
  rw [this]
  refine ⟨_, hfv, hP j' _ ?_ hj'⟩
  obtain ⟨d₂, T', t1', lp', nm', t2', g1, g2, g3, g4, g5, g6, g7, g8, g9, g10, g11, g12⟩ := sun_at h hj'
  rw [hk] at g6
  obtain ⟨a1, a2⟩ := isT_inj g6 e6 (by omega) (by omega) g12 e12
  rw [g1]
  congr 1
  exact Prod.ext a1 a2
noncomputable def RankV (hf : Heap) (v : Value) (d : Nat × Nat) : Prop := Lv.zero.tuple.list.rd hf v ([.num 100, .num d.1] :: flp d.2)
noncomputable def NameV (v : Value) (d : Nat × Nat) : Prop := ∃ nm u, v = .str nm u ∧ (d.2 < 5 → 3 ≤ d.1 → IsT nm (d.1 - 3) d.2) ∧ (5 ≤ d.2 → IsT nm d.1 d.2)
noncomputable def R3 (prog : Program) (w : World) (h₀ : Heap) (L : Addr) (hf : Heap) (m cm : Str → Option Value) (s : Shared) (x : Str) (P : Heap → Value → Nat × Nat → Prop) (D : List (Nat × Nat)) (s' : Shared) : Prop :=
  ∃ h tk hf' aR f, s' = { s with heap := h, toks := tk } ∧ Ls h₀ L (lawCs L) hf' h m (fun y => if y = x then some (.ref aR) else cm y) [] ∧ hf.StaysIn hf' ∧ hf'.MapOf (PySem.strKind prog w) aR f ∧ DictOk f D (P hf')
theorem Ls.frz_dict {prog : Program} {w : World} {h₀ hf h : Heap} {L a : Addr} {cs : List (Str × Addr)} {m cm : Str → Option Value} {f : Str → Option Value} {led : List (Addr × Obj)} {o : Obj} (S : Ls h₀ L cs hf h m cm ((a, o) :: led)) (e : h.MapOf (PySem.strKind prog w) a f) : (Mine.frz h L cs led).MapOf (PySem.strKind prog w) a f := by
  obtain ⟨x, es, ep, hx, r⟩ := e
  have n := S.N (a, o) List.mem_cons_self
  have hD := S.D
  rw [List.map_cons, List.nodup_cons] at hD
  exact ⟨x, es, ep, frz_get hx n.2.1 n.2.2.2 hD.1, r⟩
theorem mapOf_keeps {prog : Program} {w : World} {h h' : Heap} {a : Addr} {f : Str → Option Value} (x : h.MapOf (PySem.strKind prog w) a f) (k : h.StaysIn h') : h'.MapOf (PySem.strKind prog w) a f :=
  let ⟨o, es, ep, ho, r⟩ := x; ⟨o, es, ep, k _ _ ho, r⟩
theorem law_3 {prog : Program} {w : World} {s : Shared} {h₀ hf : Heap} {L fa a : Addr} {cd : Value} {m cm : Str → Option Value} {us : List Value} {D : List (Nat × Nat)}
    (S : Ls h₀ L (lawCs L) hf s.heap m cm []) (ms : m "suns" = some (.ref a)) (hl : hf.IsList a (List.toArray us)) (hd : All2 (Sun1 hf) us D) (hz : us.length ≤ 10) :
    wpC (model prog w) (AL L fa cd) (exec (stOf 13 2) (lawEnv L fa cd)) (NextR (R3 prog w h₀ L hf m cm s "ranks" RankV D)) no s := by
  show wpC _ (Around.deeper _ (envOfC _ (Scope.mk _ _ _ _ _) _ _ _)) (exec (Stmt.Assign [PySem.Expr.Name _ _] (PySem.Expr.DictComp _ _ [⟨PySem.Expr.Tuple [PySem.Expr.Name _ _, PySem.Expr.Name _ _, PySem.Expr.Name _ _] _ _, _, _, 0⟩] (Scope.mk _ _ _ _ _) _) _) (envOfC _ (Scope.mk _ _ _ _ _) _ _ _)) _ _ _
  refine C_Assign_Name (hs := rfl) ?_
  refine DC_eval (h₀ := h₀) (L := L) (cs := lawCs L) (m := m) (cm := cm) (led := []) (cl := []) rfl ?clos (by decide) rfl ?nm ?_
  case clos => exact rfl
  case nm => decide
  refine wpC_of (ldLoc S.F ms ?_)
  refine ⟨a, us, hf, s.heap, s.toks, _, keyAt hf us, valAt hf us 1, rfl, rfl, S, hl, by omega, fun I C => asg_tup3 rfl rfl rfl rfl rfl (by decide) (by decide) (by decide) (tup_of hd), ?_, ?_⟩
  · rintro i v C m₂ s' hv hi ⟨T, x, y, z, rfl, hT, m1, m2, m3⟩ hn
    obtain ⟨d₁, T', t1, lp, nm, t2, e1, e2, e3, e4, e5, _⟩ := sun_at hd hi
    have hv' : us[i]? = some (.ref T) := by simpa using hv
    rw [e2] at hv'
    injection hv' with q
    injection q with q
    subst q
    have q := isTuple_det hT e3
    obtain ⟨q1, q2, _⟩ : x = .str (keyAt hf us i) t1 ∧ y = .ref lp ∧ z = .str nm t2 := by simpa using q
    exact ⟨nmL hn m1 ⟨⟨t1, q1⟩, rfl⟩ rfl rfl (by decide), nmL hn m2 ⟨q2.trans e4.symm, rfl⟩ rfl rfl (by decide)⟩
  · rintro D' h tk f oD S₂ hm hfv
    refine Ls.stC S₂ (c := L + 1 + 1) rfl rfl rfl fun h' S₃ k => ?_
    have n := S₂.N (D', oD) List.mem_cons_self
    have hm' : h'.MapOf (PySem.strKind prog w) D' f := by
      obtain ⟨x, es, ep, hx, r⟩ := hm
      exact ⟨x, es, ep, k _ _ (fun q => n.2.2.2 "ranks" (L + 1 + 1) (by rw [lawCs_eq]; simp) q.symm) hx, r⟩
    have st := S₃.drop1.frzS
    refine ⟨rfl, h', tk, _, D', f, rfl, S₃.drop1.frz, st, S₃.frz_dict hm', dict_ok hd (fun i d hid hi => ?_) hfv⟩
    obtain ⟨d₁, T', t1, lp, nm, t2, e1, e2, e3, e4, e5, e6, e7, _⟩ := sun_at hd hi
    rw [hid] at e1
    obtain rfl := Option.some.inj e1
    rw [e4]
    exact LvOk.zero.tuple.list.keeps e7 st
theorem law_4 {prog : Program} {w : World} {s : Shared} {h₀ hf : Heap} {L fa a : Addr} {cd : Value} {m cm : Str → Option Value} {us : List Value} {D : List (Nat × Nat)}
    (S : Ls h₀ L (lawCs L) hf s.heap m cm []) (ms : m "suns" = some (.ref a)) (hl : hf.IsList a (List.toArray us)) (hd : All2 (Sun1 hf) us D) (hz : us.length ≤ 10) :
    wpC (model prog w) (AL L fa cd) (exec (stOf 13 3) (lawEnv L fa cd)) (NextR (R3 prog w h₀ L hf m cm s "names" (fun _ => NameV) D)) no s := by
  show wpC _ (Around.deeper _ (envOfC _ (Scope.mk _ _ _ _ _) _ _ _)) (exec (Stmt.Assign [PySem.Expr.Name _ _] (PySem.Expr.DictComp _ _ [⟨PySem.Expr.Tuple [PySem.Expr.Name _ _, PySem.Expr.Name _ _, PySem.Expr.Name _ _] _ _, _, _, 0⟩] (Scope.mk _ _ _ _ _) _) _) (envOfC _ (Scope.mk _ _ _ _ _) _ _ _)) _ _ _
  refine C_Assign_Name (hs := rfl) ?_
  refine DC_eval (h₀ := h₀) (L := L) (cs := lawCs L) (m := m) (cm := cm) (led := []) (cl := []) rfl ?clos (by decide) rfl ?nm ?_
  case clos => exact rfl
  case nm => decide
  refine wpC_of (ldLoc S.F ms ?_)
  refine ⟨a, us, hf, s.heap, s.toks, _, keyAt hf us, valAt hf us 2, rfl, rfl, S, hl, by omega, fun I C => asg_tup3 rfl rfl rfl rfl rfl (by decide) (by decide) (by decide) (tup_of hd), ?_, ?_⟩
  · rintro i v C m₂ s' hv hi ⟨T, x, y, z, rfl, hT, m1, m2, m3⟩ hn
    obtain ⟨d₁, T', t1, lp, nm, t2, e1, e2, e3, e4, e5, _⟩ := sun_at hd hi
    have hv' : us[i]? = some (.ref T) := by simpa using hv
    rw [e2] at hv'
    injection hv' with q
    injection q with q
    subst q
    have q := isTuple_det hT e3
    obtain ⟨q1, _, q2⟩ : x = .str (keyAt hf us i) t1 ∧ y = .ref lp ∧ z = .str nm t2 := by simpa using q
    exact ⟨nmL hn m1 ⟨⟨t1, q1⟩, rfl⟩ rfl rfl (by decide), nmL hn m3 ⟨q2.trans e5.symm, rfl⟩ rfl rfl (by decide)⟩
  · rintro D' h tk f oD S₂ hm hfv
    refine Ls.stC S₂ (c := L + 1 + 1 + 1) rfl rfl rfl fun h' S₃ k => ?_
    have n := S₂.N (D', oD) List.mem_cons_self
    have hm' : h'.MapOf (PySem.strKind prog w) D' f := by
      obtain ⟨x, es, ep, hx, r⟩ := hm
      exact ⟨x, es, ep, k _ _ (fun q => n.2.2.2 "names" (L + 1 + 1 + 1) (by rw [lawCs_eq]; simp) q.symm) hx, r⟩
    have st := S₃.drop1.frzS
    refine ⟨rfl, h', tk, _, D', f, rfl, S₃.drop1.frz, st, S₃.frz_dict hm', dict_ok hd (fun i d hid hi => ?_) hfv⟩
    obtain ⟨d₁, T', t1, lp, nm, t2, e1, e2, e3, e4, e5, e6, e7, e8, e9, _⟩ := sun_at hd hi
    rw [hid] at e1
    obtain rfl := Option.some.inj e1
    rw [e5]
    exact ⟨nm, t2, rfl, e8, e9⟩
end Lw3

section Lw5
open TI LCg
theorem push_fresh (h : Heap) : h.get? h.objs.size = none := by
  cases e : h.get? h.objs.size with
  | none => rfl
  | some o => exact absurd (Heap.lt_size e) (Nat.lt_irrefl _)
theorem push_stays (h : Heap) (o : Obj) : h.StaysIn (h.push o) := fun _ _ e => Heap.get?_push_of_some _ e
noncomputable def R5 (h₀ : Heap) (L : Addr) (hf : Heap) (m cm : Str → Option Value) (s : Shared) (s' : Shared) : Prop :=
  ∃ h tk a b m', s' = { s with heap := h, toks := tk } ∧ Ls h₀ L (lawCs L) hf h m' (fun y => if y = "row" then some (.ref b) else cm y) [(b, W.listOf (List.toArray []) 0), (a, W.listOf (List.toArray []) 0)] ∧ m' "named" = some (.ref a)
theorem law_5 {prog : Program} {w : World} {s : Shared} {h₀ hf : Heap} {L fa : Addr} {cd : Value} {m cm : Str → Option Value}
    (S : Ls h₀ L (lawCs L) hf s.heap m cm []) :
    wpC (model prog w) (AL L fa cd) (exec (stOf 13 4) (lawEnv L fa cd)) (NextR (R5 h₀ L hf m cm s)) no s := by
  show wpC _ (Around.deeper _ (envOfC _ (Scope.mk _ _ _ _ _) _ _ _)) (exec (Stmt.Assign [PySem.Expr.Tuple _ _ _] (PySem.Expr.Tuple [PySem.Expr.List [] _, PySem.Expr.List [] _] _ _) _) (envOfC _ (Scope.mk _ _ _ _ _) _ _ _)) _ _ _
  refine wpC_of (Assign_Tuple ?_)
  refine wpAny_Tuple_spliced ?_
  refine spliced_cons (wpAny_List_spliced (spliced_nil ⟨Nat.zero_le _, ?_⟩))
  refine spliced_cons (wpAny_List_spliced (spliced_nil ⟨Nat.zero_le _, ?_⟩))
  refine spliced_nil ⟨by rw [sizeLine_eq]; simp, ?_⟩
  have S1 := S.new (push_stays s.heap (W.listOf (List.toArray []) 0)) (push_fresh _) (Heap.get?_push_size _ rfl)
  have S2 := S1.new (push_stays _ (W.listOf (List.toArray []) 0)) (push_fresh _) (Heap.get?_push_size _ rfl)
  refine wpAny_assign_Tuple rfl ⟨_, Heap.get?_push_size _ rfl, rfl, _, rfl⟩ rfl rfl fun h₄ he₄ => ?_
  have S3 := (S2.keeps (push_stays _ { cls := .type "tuple", data := .seq [Value.ref s.heap.objs.size, Value.ref (s.heap.push (W.listOf (List.toArray []) 0)).objs.size].toArray })).keeps (fun b o e => he₄ b o (Nat.ne_of_lt (Heap.lt_size e)) e)
  show wpAny _ _ (assignInOrder [assign (.Name _ _) _, assign (.Name _ _) _] _) _ _ _
  refine assignInOrder_cons ?_
  refine wpAny_assign_Name (wpAny_storeName_local rfl S3.F.ns (fun h₅ hn₅ hs₅ => ?_) rfl)
  have S5 := S3.setL hn₅ hs₅
  refine assignInOrder_cons ?_
  refine wpAny_assign_Name (Ls.stC (s := { s with heap := h₅, toks := _ }) S5 (c := L + 1 + 1 + 1 + 1) rfl rfl rfl fun h₆ S₆ k => ?_)
  refine assignInOrder_nil ?_
  exact ⟨rfl, h₆, _, s.heap.objs.size, _, _, rfl, S₆, if_pos rfl⟩
end Lw5

section Fl
open TI LCg
section
variable {prog : Program} {w : World} {A : Around} {E : Value → Shared → Prop} {env : Env} {h₀ : Heap} {L : Addr} {cs : List (Str × Addr)} {s : Shared}
/-- a for's target takes an item -/
noncomputable def TgtOk (prog : Program) (w : World) (A : Around) (env : Env) (h₀ : Heap) (L : Addr) (cs : List (Str × Addr)) (target : PySem.Expr) (um uc : Value → (Str → Option Value) → Str → Option Value) : Prop :=
  (∀ it v, letOwnedTupleGo target it v = pure ()) ∧ ∀ (s : Shared) v hf m cm led (Q : Shared → Prop), Ls h₀ L cs hf s.heap m cm led → (∀ h' tk, Ls h₀ L cs hf h' (um v m) (uc v cm) led → Q { s with heap := h', toks := tk }) → wpAny (model prog w) A (assign target env v) (fun _ s' => Q s') no s
noncomputable def FlEnd (h₀ : Heap) (L : Addr) (cs : List (Str × Addr)) (hf : Heap) (ld : List (Addr × Obj)) (s : Shared) (J : Heap → (Str → Option Value) → (Str → Option Value) → List (Addr × Obj) → Prop) (s' : Shared) : Prop :=
  ∃ h tk hf' m' cm' led', s' = { s with heap := h, toks := tk } ∧ Ls h₀ L cs hf' h m' cm' (ld ++ led') ∧ hf.StaysIn hf' ∧ J hf' m' cm' led'
theorem FL_block {target : PySem.Expr} {body : List Stmt} {I : Addr} {oI₀ : Obj} {fp : List Addr} {n : Nat} {P : Nat → Value → Prop} {St : Nat → Heap → Prop} {um uc : Value → (Str → Option Value) → Str → Option Value} {R : Flow → Shared → Prop} {hf : Heap} {m cm : Str → Option Value} {led : List (Addr × Obj)}
    (J : Nat → Heap → (Str → Option Value) → (Str → Option Value) → List (Addr × Obj) → Prop)
    (W : Walks prog w A I fp [I] n P St) (hIo : ∀ i h, St i h → ∃ o, h.get? I = some o)
    (hSt : ∀ i h h' o, St i h → h.get? I = some o → h'.get? I = some o → hf.StaysIn h' → St i h')
    (hst : St 0 s.heap) (S : Ls h₀ L cs hf s.heap m cm ((I, oI₀) :: led)) (j0 : J 0 hf m cm led) (tg : TgtOk prog w A env h₀ L cs target um uc)
    (turn : ∀ i v hf₁ h tk oI m₁ cm₁ led₁, P i v → i < n → hf.StaysIn hf₁ → J i hf₁ m₁ cm₁ led₁ → Ls h₀ L cs hf₁ h (um v m₁) (uc v cm₁) ((I, oI) :: led₁) →
      wpC (model prog w) A (execs body env) (NextR (FlEnd h₀ L cs hf₁ [(I, oI)] s (J (i + 1)))) no { s with heap := h, toks := tk })
    (done : ∀ hf₁ h tk m₁ cm₁ led₁, hf.StaysIn hf₁ → J n hf₁ m₁ cm₁ led₁ → Ls h₀ L cs hf₁ h m₁ cm₁ led₁ → R .next { s with heap := h, toks := tk }) :
    codeC (model prog w) A (.forLoop target (.ref I) body [] env) (fun r s' => match r with | .ok f => R f s' | .error _ => False) s := by
  refine turns_C (fun k s' => ∃ h tk i oI hf₁ m₁ cm₁ led₁, s' = { s with heap := h, toks := tk } ∧ i ≤ n ∧ k = n + 1 - i ∧ St i h ∧ Ls h₀ L cs hf₁ h m₁ cm₁ ((I, oI) :: led₁) ∧ hf.StaysIn hf₁ ∧ J i hf₁ m₁ cm₁ led₁) ?_ (n + 1)
    ⟨s.heap, s.toks, 0, oI₀, hf, m, cm, led, rfl, Nat.zero_le _, rfl, hst, S, fun _ _ e => e, j0⟩ (tg.1 _)
  rintro k s' ⟨h', tk, i, oI, hf₁, m₁, cm₁, led₁, rfl, hi, rfl, hst', S', hff, hJ⟩
  by_cases hlt : i < n
  · refine W.item i _ _ _ hlt hst' fun v h₂ tk₂ hPv hst₂ hk₂ => ?_
    obtain ⟨oI₂, hoI₂⟩ := hIo _ _ hst₂
    have S₂ := S'.upd0 (h' := h₂) (o' := oI₂) (fun b x hb e => hk₂ b x (fun hm => hb (List.mem_singleton.mp hm)) e) hoI₂
    refine tg.2 { s with heap := h₂, toks := tk₂ } v hf₁ m₁ cm₁ _ _ S₂ fun h₃ tk₃ S₃ => ?_
    refine wpC_mono (turn i v hf₁ h₃ tk₃ oI₂ m₁ cm₁ led₁ hPv hlt hff hJ S₃) (fun f s₃ h₃' => ?_) fun _ _ q => q
    obtain ⟨rfl, h₄, tk₄, hf₂, m₂, cm₂, led₂, rfl, S₄, hf12, hJ'⟩ := h₃'
    have hf02 : hf.StaysIn hf₂ := fun b o e => hf12 b o (hff b o e)
    refine ⟨n + 1 - (i + 1), by omega, h₄, tk₄, i + 1, oI₂, hf₂, m₂, cm₂, led₂, rfl, hlt, rfl, ?_, S₄, hf02, hJ'⟩
    have hst₃ : St (i + 1) h₃ := hSt _ _ _ _ hst₂ hoI₂ (S₃.N (I, oI₂) List.mem_cons_self).1 fun b o e => S₃.K b o (hff b o e)
    exact hSt _ _ _ _ hst₃ (S₃.N (I, oI₂) List.mem_cons_self).1 (S₄.N (I, oI₂) List.mem_cons_self).1 fun b o e => S₄.K b o (hf02 b o e)
  · obtain rfl : i = n := Nat.le_antisymm hi (Nat.not_lt.mp hlt)
    refine W.done _ _ _ hst' fun h₂ tk₂ hk₂ => ?_
    have hkI : ∀ b x, b ≠ I → h'.get? b = some x → h₂.get? b = some x := fun b x hb e => hk₂ b x (fun hm => hb (List.mem_singleton.mp hm)) e
    refine done hf₁ h₂ tk₂ m₁ cm₁ led₁ hff hJ ?_
    have nI := S'.N (I, oI) List.mem_cons_self
    have hD := S'.D
    rw [List.map_cons, List.nodup_cons] at hD
    have hkf : hf₁.StaysIn h₂ := fun b x e => hkI b x (fun q => by rw [q, nI.2.2.1] at e; cases e) (S'.K b x e)
    refine ⟨⟨S'.F.ns.at' fun o e => hkI _ o (Ne.symm nI.2.1) e, fun b x e => hkf b x (S'.O b x e), S'.F.above⟩, ⟨fun nn c e => ?_, S'.C.apart, S'.C.above⟩, S'.U, hkf, fun p hp => ?_, hD.2, S'.O, S'.aL, S'.aC⟩
    · obtain ⟨x, hx, hd⟩ := S'.C.cell nn c e
      exact ⟨x, hkI _ _ (nI.2.2.2 nn c (mem_of_lookup e)) hx, hd⟩
    · obtain ⟨q1, q2⟩ := S'.N p (List.mem_cons_of_mem _ hp)
      exact ⟨hkI _ _ (fun e => hD.1 (List.mem_map.mpr ⟨p, hp, e⟩)) q1, q2⟩
/-- a for over a frozen list -/
theorem FL_list {target iter : PySem.Expr} {body : List Stmt} {pos : Pos} {ax : Addr} {vs : List Value} {um uc : Value → (Str → Option Value) → Str → Option Value} {Q : Flow → Shared → Prop} {hf : Heap} {m cm : Str → Option Value} {led : List (Addr × Obj)}
    (hA : A.handled = none) (J : Nat → Heap → (Str → Option Value) → (Str → Option Value) → List (Addr × Obj) → Prop) (S : Ls h₀ L cs hf s.heap m cm led) (hl : hf.IsList ax (List.toArray vs)) (j0 : J 0 hf m cm led) (tg : TgtOk prog w A env h₀ L cs target um uc)
    (he : wpC (model prog w) A (eval iter env) (fun v s' => v = .ref ax ∧ s' = s) no s)
    (turn : ∀ i v hf₁ h tk I oI m₁ cm₁ led₁, vs[i]? = some v → hf.StaysIn hf₁ → J i hf₁ m₁ cm₁ led₁ → Ls h₀ L cs hf₁ h (um v m₁) (uc v cm₁) ((I, oI) :: led₁) →
      wpC (model prog w) A (execs body env) (NextR (FlEnd h₀ L cs hf₁ [(I, oI)] s (J (i + 1)))) no { s with heap := h, toks := tk })
    (done : ∀ hf₁ h tk m₁ cm₁ led₁, hf.StaysIn hf₁ → J vs.length hf₁ m₁ cm₁ led₁ → Ls h₀ L cs hf₁ h m₁ cm₁ led₁ → Q .next { s with heap := h, toks := tk })
    (hs : ∀ x, foldedSetIterable iter env x = pure x := by intro _; rfl) :
    wpC (model prog w) A (exec (.For target iter body [] pos) env) Q no s := by
  refine For_C (wpC_mono he (fun v s' q => ?_) fun _ _ q => q) hs
  obtain ⟨rfl, rfl⟩ := q
  have hl₁ := isList_keeps hl S.K
  have hlt : ax < s'.heap.objs.size := by obtain ⟨_, e, _⟩ := hl₁; exact Heap.lt_size e
  refine wpAny_pyIter_list hl₁ ?_
  have W := Walks.list (prog := prog) (w := w) hA s'.heap.objs.size ax (Nat.ne_of_lt hlt) (List.toArray vs)
  have hz : (List.toArray vs).size = vs.length := by simp
  rw [hz] at W
  have up := push_stays s'.heap { cls := .type "list_iterator", data := .fields #[.ref ax, .int 0 0] }
  exact FL_block (s := { s' with heap := s'.heap.push { cls := .type "list_iterator", data := .fields #[.ref ax, .int 0 0] } }) J W (fun i h st => by obtain ⟨o, e, _⟩ := st.1; exact ⟨o, e⟩) (fun i h h' o st e e' k => ⟨by obtain ⟨o', q, r⟩ := st.1; rw [e] at q; cases q; exact ⟨o, e', r⟩, isList_keeps hl k⟩)
    ⟨⟨_, Heap.get?_push_size _ rfl, rfl, rfl⟩, isList_keeps hl₁ up⟩ (S.new up (push_fresh _) (Heap.get?_push_size _ rfl)) j0 tg (fun i v hf₁ h tk oI m₁ cm₁ led₁ a1 a2 a3 a4 a5 => turn i v hf₁ h tk _ oI m₁ cm₁ led₁ (by simpa using a1) a3 a4 a5) done
/-- a for over range(n) -/
theorem FL_range {target iter : PySem.Expr} {body : List Stmt} {pos : Pos} {n : Nat} {um uc : Value → (Str → Option Value) → Str → Option Value} {Q : Flow → Shared → Prop} {hf : Heap} {m cm : Str → Option Value} {led : List (Addr × Obj)}
    (hA : A.handled = none) (J : Nat → Heap → (Str → Option Value) → (Str → Option Value) → List (Addr × Obj) → Prop) (hn : n ≤ 1000) (j0 : J 0 hf m cm led) (tg : TgtOk prog w A env h₀ L cs target um uc)
    (he : wpC (model prog w) A (eval iter env) (fun v s' => ∃ r t u x h tk, v = .ref r ∧ s' = { s with heap := h, toks := tk } ∧ Ls h₀ L cs hf h m cm led ∧ IsRange h r 0 ((n : Nat) : Int) 1 t u x) no s)
    (turn : ∀ i t hf₁ h tk I oI m₁ cm₁ led₁, i < n → hf.StaysIn hf₁ → J i hf₁ m₁ cm₁ led₁ → Ls h₀ L cs hf₁ h (um (.int (i : Int) t) m₁) (uc (.int (i : Int) t) cm₁) ((I, oI) :: led₁) →
      wpC (model prog w) A (execs body env) (NextR (FlEnd h₀ L cs hf₁ [(I, oI)] s (J (i + 1)))) no { s with heap := h, toks := tk })
    (done : ∀ hf₁ h tk m₁ cm₁ led₁, hf.StaysIn hf₁ → J n hf₁ m₁ cm₁ led₁ → Ls h₀ L cs hf₁ h m₁ cm₁ led₁ → Q .next { s with heap := h, toks := tk })
    (hs : ∀ x, foldedSetIterable iter env x = pure x := by intro _; rfl) :
    wpC (model prog w) A (exec (.For target iter body [] pos) env) Q no s := by
  refine For_C (wpC_mono he (fun v s' q => ?_) fun _ _ q => q) hs
  obtain ⟨r, t, u, x, h₁, tk₁, rfl, rfl, S, hr⟩ := q
  refine wpAny_pyIter_range hr (small_upto hn) ?_
  have up := push_stays h₁ { cls := .type "range_iterator", data := .fields #[rawInt 0, rawInt (Builtin.Range.rangeSize 0 ((n : Nat) : Int) 1), rawInt 1] }
  refine FL_block (s := { s with heap := h₁.push { cls := .type "range_iterator", data := .fields #[rawInt 0, rawInt (Builtin.Range.rangeSize 0 ((n : Nat) : Int) 1), rawInt 1] }, toks := tk₁ }) (P := fun i v => ∃ t, v = .int (0 + (i : Int)) t) J (range_walks hA 0 n) (fun i h st => ⟨_, st⟩) (fun i h h' o st e e' k => ?_)
    (by show IsRangeIter _ _ _ _ _; rw [size_upto]; simpa using Heap.get?_push_size _ rfl) (S.new up (push_fresh _) (Heap.get?_push_size _ rfl)) j0 tg (fun i v hf₁ h tk oI m₁ cm₁ led₁ a1 a2 a3 a4 a5 => ?_) done
  · have st' : h.get? _ = some _ := st
    show h'.get? _ = some _
    rw [e', ← e]; exact st'
  · obtain ⟨t', rfl⟩ := a1
    rw [Int.zero_add] at a5
    exact turn i t' hf₁ h tk _ oI m₁ cm₁ led₁ a2 a3 a4 a5
end
theorem tgt_local {prog : Program} {w : World} {A : Around} {env : Env} {h₀ : Heap} {cs : List (Str × Addr)} {x : Str} {px : Pos} (hx : env.kindOf x = some .local) (hp : (env.scope.kind == .class || (env.scope.kind == .module && env.locals != env.globals)) = false) :
    TgtOk prog w A env h₀ env.locals cs (.Name x px) (fun v m y => if y = x then some v else m y) (fun _ cm => cm) :=
  ⟨fun _ _ => rfl, fun s v hf m cm led Q S h => wpAny_assign_Name (wpAny_storeName_local hx S.F.ns (fun h' hn hs => h h' _ (S.setL hn hs)) hp)⟩
theorem tgt_cell {prog : Program} {w : World} {A : Around} {h₀ : Heap} {L fa : Addr} {cd : Value} {name : Str} {scope : Scope} {x : Str} {c : Addr} {px : Pos} (hc : (cellsFrom (L + 1) scope.names []).lookup x = some c) (hk : scope.kind = .function) (hl : (envOfC name scope L fa cd).kindOf x = some .cell) :
    TgtOk prog w A (envOfC name scope L fa cd) h₀ L (cellsFrom (L + 1) scope.names []) (.Name x px) (fun _ m => m) (fun v cm y => if y = x then some v else cm y) :=
  ⟨fun _ _ => rfl, fun s v hf m cm led Q S h => wpAny_assign_Name (S.stC hc hk hl fun h' S' _ => h h' s.toks S')⟩
end Fl

section Pl
noncomputable def tr : Nat → Nat
  | 0 => 0
  | 1 => 2
  | 2 => 3
  | 3 => 5
  | 4 => 4
  | 5 => 3
  | _ => 1
noncomputable def code (d : Nat × Nat) : Nat := d.1 * 6 + tr d.2
theorem tr_lt (k : Nat) : tr k < 6 := by
  match k with
  | 0 | 1 | 2 | 3 | 4 | 5 => decide
  | k + 6 => show 1 < 6; decide
noncomputable abbrev prOf (d : Nat × Nat) : List (List CvI) := [.num 100, .num d.1] :: flp d.2
theorem fl_tab : ∀ k, k < 7 → ∀ k', k' < 7 → lexB Lv.zero.eq (Lv.zero.cmp .Lt) false (fl k) (fl k') = decide (tr k < tr k') ∧ lexOk Lv.zero.eq Lv.zero.ok (fl k) (fl k') = true := by decide
theorem flp_tab : ∀ k, k < 7 → ∀ k', k' < 7 → lexB Lv.zero.tuple.eq (Lv.zero.tuple.cmp .Lt) false (flp k) (flp k') = decide (tr k < tr k') ∧ lexB Lv.zero.tuple.eq (Lv.zero.tuple.cmp .LtE) true (flp k) (flp k') = decide (tr k ≤ tr k') ∧
    lexOk Lv.zero.tuple.eq Lv.zero.tuple.ok (flp k) (flp k') = true ∧ eqL Lv.zero.tuple.eq (flp k) (flp k') = decide (tr k = tr k') := by decide
theorem zeq (n n' : Nat) : Lv.zero.eq (.num n) (.num n') = decide (n = n') := by
  show ((n : Int) == (n' : Int)) = _
  by_cases h : n = n'
  · subst h; simp
  · rw [decide_eq_false h]
    exact beq_eq_false_iff_ne.mpr (by omega)
theorem zlt (n n' : Nat) : Lv.zero.cmp .Lt (.num n) (.num n') = decide (n < n') := by
  show decide ((n : Int) < (n' : Int)) = _
  exact decide_eq_decide.mpr (by omega)
theorem zle (n n' : Nat) : Lv.zero.cmp .LtE (.num n) (.num n') = decide (n ≤ n') := by
  show decide ((n : Int) ≤ (n' : Int)) = _
  exact decide_eq_decide.mpr (by omega)
theorem z100 : Lv.zero.eq (.num 100) (.num 100) = true := rfl
theorem cv_lt {d d' : Nat × Nat} (hk : d.2 < 7) (hk' : d'.2 < 7) : Lv.zero.list.cmp .Lt (cvOf d.1 d.2) (cvOf d'.1 d'.2) = decide (code d < code d') := by
  show lexB Lv.zero.eq (Lv.zero.cmp .Lt) false (.num 100 :: .num d.1 :: fl d.2) (.num 100 :: .num d'.1 :: fl d'.2) = _
  rw [lexB, z100, if_pos rfl, lexB, zeq, zlt, (fl_tab _ hk _ hk').1]
  have h1 := tr_lt d.2
  have h2 := tr_lt d'.2
  unfold code
  by_cases h : d.1 = d'.1
  · rw [h]; simp
  · rw [decide_eq_false h, if_neg Bool.false_ne_true]
    exact decide_eq_decide.mpr (by omega)
theorem cv_ok {d d' : Nat × Nat} (hk : d.2 < 7) (hk' : d'.2 < 7) : Lv.zero.list.ok (cvOf d.1 d.2) (cvOf d'.1 d'.2) = true := by
  show lexOk Lv.zero.eq Lv.zero.ok (.num 100 :: .num d.1 :: fl d.2) (.num 100 :: .num d'.1 :: fl d'.2) = _
  rw [lexOk, z100, if_pos rfl, lexOk, zeq, (fl_tab _ hk _ hk').2]
  split <;> rfl
theorem peq (n n' : Nat) : Lv.zero.tuple.eq [.num 100, .num n] [.num 100, .num n'] = decide (n = n') := by
  show (Lv.zero.eq (.num 100) (.num 100) && (Lv.zero.eq (.num n) (.num n') && true)) = _
  rw [z100, zeq]; simp
theorem plt (n n' : Nat) : Lv.zero.tuple.cmp .Lt [.num 100, .num n] [.num 100, .num n'] = decide (n < n') := by
  show lexB Lv.zero.eq (Lv.zero.cmp .Lt) false [.num 100, .num n] [.num 100, .num n'] = _
  rw [lexB, z100, if_pos rfl, lexB, zeq, zlt]
  by_cases h : n = n'
  · subst h; simp [lexB]
  · rw [decide_eq_false h, if_neg Bool.false_ne_true]
theorem ple (n n' : Nat) : Lv.zero.tuple.cmp .LtE [.num 100, .num n] [.num 100, .num n'] = decide (n ≤ n') := by
  show lexB Lv.zero.eq (Lv.zero.cmp .LtE) true [.num 100, .num n] [.num 100, .num n'] = _
  rw [lexB, z100, if_pos rfl, lexB, zeq, zle]
  by_cases h : n = n'
  · subst h; simp [lexB]
  · rw [decide_eq_false h, if_neg Bool.false_ne_true]
theorem pr_lt {d d' : Nat × Nat} (hk : d.2 < 7) (hk' : d'.2 < 7) : Lv.zero.tuple.list.cmp .Lt (prOf d) (prOf d') = decide (code d < code d') := by
  show lexB Lv.zero.tuple.eq (Lv.zero.tuple.cmp .Lt) false ([.num 100, .num d.1] :: flp d.2) ([.num 100, .num d'.1] :: flp d'.2) = _
  rw [lexB, peq, plt, (flp_tab _ hk _ hk').1]
  have h1 := tr_lt d.2
  have h2 := tr_lt d'.2
  unfold code
  by_cases h : d.1 = d'.1
  · rw [h]; simp
  · rw [decide_eq_false h, if_neg Bool.false_ne_true]
    exact decide_eq_decide.mpr (by omega)
theorem pr_le {d d' : Nat × Nat} (hk : d.2 < 7) (hk' : d'.2 < 7) : Lv.zero.tuple.list.cmp .LtE (prOf d) (prOf d') = decide (code d ≤ code d') := by
  show lexB Lv.zero.tuple.eq (Lv.zero.tuple.cmp .LtE) true ([.num 100, .num d.1] :: flp d.2) ([.num 100, .num d'.1] :: flp d'.2) = _
  rw [lexB, peq, ple, (flp_tab _ hk _ hk').2.1]
  have h1 := tr_lt d.2
  have h2 := tr_lt d'.2
  unfold code
  by_cases h : d.1 = d'.1
  · rw [h]; simp
  · rw [decide_eq_false h, if_neg Bool.false_ne_true]
    exact decide_eq_decide.mpr (by omega)
theorem pr_eq {d d' : Nat × Nat} (hk : d.2 < 7) (hk' : d'.2 < 7) : Lv.zero.tuple.list.eq (prOf d) (prOf d') = decide (code d = code d') := by
  show (Lv.zero.tuple.eq [.num 100, .num d.1] [.num 100, .num d'.1] && eqL Lv.zero.tuple.eq (flp d.2) (flp d'.2)) = _
  rw [peq, (flp_tab _ hk _ hk').2.2.2]
  have h1 := tr_lt d.2
  have h2 := tr_lt d'.2
  unfold code
  rw [← Bool.decide_and]
  exact decide_eq_decide.mpr (by omega)
theorem pr_ok {d d' : Nat × Nat} (hk : d.2 < 7) (hk' : d'.2 < 7) : Lv.zero.tuple.list.ok (prOf d) (prOf d') = true := by
  show lexOk Lv.zero.tuple.eq Lv.zero.tuple.ok ([.num 100, .num d.1] :: flp d.2) ([.num 100, .num d'.1] :: flp d'.2) = _
  rw [lexOk, peq, (flp_tab _ hk _ hk').2.2.1]
  split
  · rfl
  · show lexOk Lv.zero.eq Lv.zero.ok [.num 100, .num d.1] [.num 100, .num d'.1] = true
    rw [lexOk, z100, if_pos rfl, lexOk, zeq]
    split <;> rfl
/-- where a rising look turns -/
theorem cut_at {α : Type} (p : α → Bool) : ∀ l : List α, (∀ (i j : Nat) (a b : α), i ≤ j → l[i]? = some a → l[j]? = some b → p a = true → p b = true) →
    ∃ c, c ≤ l.length ∧ (∀ (i : Nat) (a : α), l[i]? = some a → (p a = true ↔ c ≤ i)) ∧ (l.filter fun a => !p a).length = c
  | [], _ => ⟨0, Nat.le_refl _, fun i a h => by simp at h, rfl⟩
  | x :: l, h => by
    obtain ⟨c, h1, h2, h3⟩ := cut_at p l fun i j a b hij ha hb => h (i + 1) (j + 1) a b (Nat.succ_le_succ hij) (by simpa using ha) (by simpa using hb)
    cases hx : p x with
    | false =>
      refine ⟨c + 1, by simp; omega, fun i a ha => ?_, by simp [hx, h3]⟩
      cases i with
      | zero =>
        simp at ha
        subst ha
        simp [hx]
      | succ i =>
        have := h2 i a (by simpa using ha)
        rw [this]; omega
    | true =>
      have all : ∀ (i : Nat) (a : α), (x :: l)[i]? = some a → p a = true := fun i a ha => h 0 i x a (Nat.zero_le _) rfl ha hx
      refine ⟨0, Nat.zero_le _, fun i a ha => ⟨fun _ => Nat.zero_le _, fun _ => all i a ha⟩, ?_⟩
      rw [List.length_eq_zero_iff, List.filter_eq_nil_iff]
      intro a ha
      obtain ⟨i, hi, rfl⟩ := List.mem_iff_getElem.mp ha
      rw [all i _ (List.getElem?_eq_getElem hi)]
      simp
end Pl

section Lw6
open TI LCg
noncomputable def txt (d : Nat × Nat) : List Nat := dg d.1 ++ bh d.2
/-- a state with one list that turns -/
theorem ins_named {prog : Program} {w : World} {E : Value → Shared → Prop} {s : Shared} {mg mb : Str → Option Value} {h₀ hf : Heap} {L a : Addr} {cs : List (Str × Addr)} {m cm : Str → Option Value} {ev : Env} {l1 l2 : List (Addr × Obj)} {vs : List Value} {n c : Nat} {x : Str} {tx : Tok} {Q : Value → Shared → Prop}
    (G : Gr w mg mb h₀) (hk : ev.scope.kind = .function) (hfr : ev.frame = some L) (S : Ls h₀ L cs hf s.heap m cm (l1 ++ (a, W.listOf (List.toArray vs) n) :: l2)) (hz : vs.length ≤ 900) (hc : c ≤ vs.length)
    (hp : ∀ i, i < vs.length → ∃ t u, vs[i]? = some (.str t u) ∧ (x.cps.toList < t.cps.toList ↔ c ≤ i))
    (h : ∀ h' tk' n', Ls h₀ L cs hf h' m cm (l1 ++ (a, W.listOf (List.toArray (vs.take c ++ .str x tx :: vs.drop c)) n') :: l2) → Q .none { s with heap := h', toks := tk' }) :
    wpC (model prog w) (callerA.deeper ev) (call (.ref 60) [.ref a, .str x tx] []) Q E s := by
  have n := S.N (a, _) (List.mem_append_right _ List.mem_cons_self)
  obtain ⟨oL, R, hL⟩ := S.out hk hfr [a]
  have st : h₀.StaysIn (gone s.heap [L, a]) := fun b o e => S.base (ex := [a]) (fun b hb => by rw [List.mem_singleton.mp hb]; exact n.2.2.1) b o (S.O b o e)
  refine ins_str R (G.keeps st) (al_room _ (by decide)) n.1 (gone_none (by simp)) (by simpa using n.2.1) hz hc hp fun h' tk' n' ret ho => ?_
  exact h h' tk' n' (S.back1 hL ret ho)
theorem ins_row {prog : Program} {w : World} {E : Value → Shared → Prop} {s : Shared} {mg mb : Str → Option Value} {h₀ hf : Heap} {L a f : Addr} {cs : List (Str × Addr)} {m cm : Str → Option Value} {ev : Env} {l1 l2 : List (Addr × Obj)} {vs : List Value} {n c : Nat} {x : Str} {tx : Tok} {Q : Value → Shared → Prop} {P : Str → List CvI → Prop} {xs : List CvI}
    {oc : Value} {od : Option Addr} {fd : FuncData} {osl : Array (Option Value)}
    (KF : KeyFn prog w mg mb f P) (hfn : (hd.heap_39 w.params).lookup f = some ⟨oc, od, .func fd, osl⟩)
    (G : Gr w mg mb h₀) (hk : ev.scope.kind = .function) (hfr : ev.frame = some L) (S : Ls h₀ L cs hf s.heap m cm (l1 ++ (a, W.listOf (List.toArray vs) n) :: l2)) (hz : vs.length ≤ 900) (hc : c ≤ vs.length) (hP : P x xs)
    (hp : ∀ i, i < vs.length → ∃ t u d, vs[i]? = some (.str t u) ∧ P t d ∧ Lv.zero.list.ok xs d = true ∧ (Lv.zero.list.cmp .Lt xs d = true ↔ c ≤ i))
    (h : ∀ h' tk' n', Ls h₀ L cs hf h' m cm (l1 ++ (a, W.listOf (List.toArray (vs.take c ++ .str x tx :: vs.drop c)) n') :: l2) → Q .none { s with heap := h', toks := tk' }) :
    wpC (model prog w) (callerA.deeper ev) (call (.ref 60) [.ref a, .str x tx] [("key", .ref f)]) Q E s := by
  have n := S.N (a, _) (List.mem_append_right _ List.mem_cons_self)
  obtain ⟨oL, R, hL⟩ := S.out hk hfr [a]
  have st : h₀.StaysIn (gone s.heap [L, a]) := fun b o e => S.base (ex := [a]) (fun b hb => by rw [List.mem_singleton.mp hb]; exact n.2.2.1) b o (S.O b o e)
  refine ins_key KF hfn R (G.keeps st) (al_room _ (by decide)) (al_units _ (by decide)) rfl n.1 (gone_none (by simp)) (by simpa using n.2.1) hz hc hP hp fun h' tk' n' ret ho => ?_
  exact h h' tk' n' (S.back1 hL ret ho)
theorem All2.ins {α β : Type} {P : α → β → Prop} {as : List α} {bs : List β} (h : All2 P as bs) (c : Nat) {a : α} {b : β} (k : P a b) : All2 P (as.take c ++ a :: as.drop c) (bs.take c ++ b :: bs.drop c) := by
  have htd : ∀ (c : Nat), All2 P (as.take c) (bs.take c) ∧ All2 P (as.drop c) (bs.drop c) := by
    induction h with
    | nil => intro c; simp; exact .nil
    | cons h t ih =>
      intro c
      cases c with
      | zero => exact ⟨.nil, .cons h t⟩
      | succ c => exact ⟨.cons h (ih c).1, (ih c).2⟩
  exact (htd c).1.app (.cons k (htd c).2)
theorem if_isnot {prog : Program} {w : World} {A : Around} {s : Shared} {env : Env} {ce : PySem.Expr} {kk : Nat} {cp p1 p2 : Pos} {body : List Stmt} {Q : Flow → Shared → Prop}
    (h : wpC (model prog w) A (eval ce env) (fun v s₁ => v = .none ∧ Q .next s₁) no s) : wpC (model prog w) A (exec (.If (.Compare ce [.IsNot] [.Constant .none kk cp] p1) body [] p2) env) Q no s := by
  refine C_If (C_isTrue_Compare1 (hm := rfl) (wpC_mono h (fun v s₁ q => ?_) fun _ _ q => q))
  obtain ⟨rfl, q⟩ := q
  refine wpC_of (wpAny_Constant_none (wpAny_isNot_self rfl (wpAny_truthy_bool ?_)))
  rw [if_neg Bool.false_ne_true]
  exact C_execs_nil q
theorem pairwise_ins {α : Type} {R : α → α → Prop} {l : List α} {c : Nat} {x : α} (h : l.Pairwise R) (h1 : ∀ i a, i < c → l[i]? = some a → R a x) (h2 : ∀ i a, c ≤ i → l[i]? = some a → R x a) : (l.take c ++ x :: l.drop c).Pairwise R := by
  have hsp : (l.take c ++ l.drop c).Pairwise R := by rw [List.take_append_drop]; exact h
  rw [List.pairwise_append] at hsp ⊢
  obtain ⟨a1, a2, a3⟩ := hsp
  refine ⟨a1, List.pairwise_cons.mpr ⟨fun y hy => ?_, a2⟩, fun a ha b hb => ?_⟩
  · obtain ⟨i, hi, rfl⟩ := List.mem_iff_getElem.mp hy
    rw [List.getElem_drop]
    have hi' : c + i < l.length := by rw [List.length_drop] at hi; omega
    exact h2 (c + i) _ (Nat.le_add_right _ _) (List.getElem?_eq_getElem hi')
  · rcases List.mem_cons.mp hb with rfl | hb
    · obtain ⟨i, hi, rfl⟩ := List.mem_iff_getElem.mp ha
      rw [List.getElem_take]
      have hi' : i < c ∧ i < l.length := by rw [List.length_take] at hi; omega
      exact h1 i _ hi'.1 (List.getElem?_eq_getElem hi'.2)
    · exact a3 a ha b hb
theorem perm_ins {α : Type} (l : List α) (c : Nat) (x : α) : (l.take c ++ x :: l.drop c).Perm (l ++ [x]) := by
  refine List.perm_middle.trans ?_
  rw [List.take_append_drop]
  exact (List.perm_append_singleton x l).symm
theorem pairwise_at {α : Type} {R : α → α → Prop} {l : List α} (h : l.Pairwise R) {i j : Nat} {a b : α} (hij : i < j) (ha : l[i]? = some a) (hb : l[j]? = some b) : R a b := by
  obtain ⟨hi, rfl⟩ := List.getElem?_eq_some_iff.mp ha
  obtain ⟨hj, rfl⟩ := List.getElem?_eq_some_iff.mp hb
  exact List.pairwise_iff_getElem.mp h i j hi hj hij
noncomputable def TxLe (d e : Nat × Nat) : Prop := ¬ txt e < txt d
noncomputable def rk (D : List (Nat × Nat)) (j : Nat) : Nat := code (D.getD j (0, 0)) * 64 + j
noncomputable def RowV (D : List (Nat × Nat)) (v : Value) (j : Nat) : Prop := ∃ d, D[j]? = some d ∧ TxtV v d
noncomputable def J6 (D : List (Nat × Nat)) (a b : Addr) (cm : Str → Option Value) (i : Nat) (_ : Heap) (m' cm' : Str → Option Value) (led' : List (Addr × Obj)) : Prop :=
  cm' = cm ∧ m' "named" = some (.ref a) ∧ ∃ nv rv nN nR nD rI, led' = [(b, W.listOf (List.toArray rv) nR), (a, W.listOf (List.toArray nv) nN)] ∧ All2 TxtV nv nD ∧ nD.Perm (D.take i) ∧ nD.Pairwise TxLe ∧
    All2 (RowV D) rv rI ∧ rI.Perm (List.range i) ∧ rI.Pairwise (fun x y => rk D x < rk D y)
noncomputable def R6 (h₀ : Heap) (L : Addr) (hf : Heap) (cm : Str → Option Value) (D : List (Nat × Nat)) (a b : Addr) (s : Shared) (s' : Shared) : Prop :=
  ∃ h tk hf' m' nv rv nD rI, s' = { s with heap := h, toks := tk } ∧ Ls h₀ L (lawCs L) hf' h m' cm [] ∧ hf.StaysIn hf' ∧ m' "named" = some (.ref a) ∧ hf'.IsList a (List.toArray nv) ∧ hf'.IsList b (List.toArray rv) ∧ All2 TxtV nv nD ∧ nD.Perm D ∧ nD.Pairwise TxLe ∧
    All2 (RowV D) rv rI ∧ rI.Perm (List.range D.length) ∧ rI.Pairwise (fun x y => rk D x < rk D y)
theorem law_6 {prog : Program} {w : World} {s : Shared} {mg mb : Str → Option Value} {h₀ hf : Heap} {L fa a b aT : Addr} {cd : Value} {m cm : Str → Option Value} {D : List (Nat × Nat)} {vsT : List Value} {nN nR : Nat}
    (G : Gr w mg mb h₀) (S : Ls h₀ L (lawCs L) hf s.heap m cm [(b, W.listOf (List.toArray []) nR), (a, W.listOf (List.toArray []) nN)]) (hD : Dok D) (mn : m "named" = some (.ref a)) (cr : cm "row" = some (.ref b)) (ct : cm "texts" = some (.ref aT)) (hl : hf.IsList aT (List.toArray vsT)) (hT : All2 TxtV vsT D) :
    wpC (model prog w) (AL L fa cd) (exec (stOf 13 5) (lawEnv L fa cd)) (NextR (R6 h₀ L hf cm D a b s)) no s := by
  show wpC _ (Around.deeper _ (envOfC _ (Scope.mk _ _ _ _ _) _ _ _)) (exec (Stmt.For (PySem.Expr.Name _ _) _ _ [] _) (envOfC _ (Scope.mk _ _ _ _ _) _ _ _)) _ _ _
  refine FL_list (m := m) (cm := cm) rfl (J6 D a b cm) S hl ⟨rfl, mn, [], [], nN, nR, [], [], rfl, .nil, List.Perm.refl _, .nil, .nil, List.Perm.refl _, .nil⟩ (tgt_local (env := envOfC _ (Scope.mk _ _ _ _ _) _ _ _) rfl rfl) (wpC_of (ldC S.C (c := L + 1) rfl ct ⟨rfl, rfl⟩)) ?_ ?_
  · rintro i v hf₁ h tk I oI m₁ cm₁ led₁ hv hff ⟨rfl, mn₁, nv, rv, nN₁, nR₁, nD, rI, rfl, h1, h2, h3, h4, h5, h6⟩ S₁
    obtain ⟨d, hd, t, u, rfl, ht⟩ := hT.at hv
    have hlen : vsT.length = D.length := hT.len
    have hiD : i < D.length := by
      rcases List.getElem?_eq_some_iff.mp hd with ⟨q, _⟩; exact q
    have hdok := hD.2.2 d (List.mem_of_getElem? hd)
    have hi10 : i < 10 := Nat.lt_of_lt_of_le hiD hD.2.1
    have htx : t.cps.toList = txt d := ht
    have hnl : nv.length = nD.length := h1.len
    have hnD : nD.length = i := by rw [h2.length_eq, List.length_take]; omega
    have hrl : rv.length = rI.length := h4.len
    have hrI : rI.length = i := by rw [h5.length_eq, List.length_range]
    obtain ⟨c, c1, c2, _⟩ := cut_at (fun e => decide (txt d < txt e)) nD fun i j x y hij hx hy hp => by
      rw [decide_eq_true_eq] at hp ⊢
      rcases Nat.lt_or_ge i j with hlt | hge
      · have hle : ¬ txt y < txt x := pairwise_at h3 hlt hx hy
        exact Decidable.byContradiction fun q => hle (List.lt_of_le_of_lt (List.not_lt.mp q) hp)
      · obtain rfl : i = j := by omega
        rw [hx] at hy
        obtain rfl := Option.some.inj hy
        exact hp
    have gD : ∀ {j e}, D[j]? = some e → D.getD j (0, 0) = e := fun {j e} he => by rw [List.getD_eq_getElem?_getD, he]; rfl
    obtain ⟨c', c1', c2', _⟩ := cut_at (fun j => decide (code d < code (D.getD j (0, 0)))) rI fun i j x y hij hx hy hp => by
      rw [decide_eq_true_eq] at hp ⊢
      rcases Nat.lt_or_ge i j with hlt | hge
      · have hle : rk D x < rk D y := pairwise_at h6 hlt hx hy
        have hx' := List.mem_range.mp (h5.mem_iff.mp (List.mem_of_getElem? hx))
        have hy' := List.mem_range.mp (h5.mem_iff.mp (List.mem_of_getElem? hy))
        unfold rk at hle
        omega
      · obtain rfl : i = j := by omega
        rw [hx] at hy
        obtain rfl := Option.some.inj hy
        exact hp
    obtain ⟨oc6, od6, fd6, osl6, h60⟩ := fn_60 w
    obtain ⟨oc4, od4, fd4, osl4, h44⟩ := fn_44 w
    refine C_next (fun s' => ∃ h' tk' nN', s' = { s with heap := h', toks := tk' } ∧ Ls h₀ L (lawCs L) hf₁ h' (fun y => if y = "text" then some (.str t u) else m₁ y) cm₁ [(I, oI), (b, W.listOf (List.toArray rv) nR₁), (a, W.listOf (List.toArray (nv.take c ++ .str t u :: nv.drop c)) nN')]) (if_isnot ?_) ?_
    · refine C_Call_fn (f := 60) (o := ⟨oc6, od6, .func fd6, osl6⟩) rfl (nmG G S₁.F.keep (mg_60 G) ⟨rfl, ?_⟩ rfl rfl rfl (by decide))
      refine C_args_cons (wpC_of (ldLoc S₁.F mn₁ ?_))
      refine C_args_cons (wpC_of (ldLoc S₁.F rfl ?_))
      refine C_args_nil (C_kws_nil ⟨S₁.F.keep _ _ (G.X _ _ h60), ?_⟩)
      refine ins_named (l1 := [(I, oI), (b, W.listOf (List.toArray rv) nR₁)]) (l2 := []) (c := c) G rfl rfl S₁ (by omega) (by omega) (fun j hj => ?_) fun h' tk' n' S' => ⟨rfl, rfl, h', tk', n', rfl, S'⟩
      obtain ⟨e, he, t', u', hv', ht'⟩ := h1.get j hj
      refine ⟨t', u', by rw [List.getElem?_eq_getElem hj, hv'], ?_⟩
      have := c2 j e he
      rw [decide_eq_true_eq] at this
      rw [htx, show t'.cps.toList = txt e from ht']
      exact this
    rintro s' ⟨h', tk', nN', rfl, S₂⟩
    refine C_next (fun s' => ∃ h' tk' nR', s' = { s with heap := h', toks := tk' } ∧ Ls h₀ L (lawCs L) hf₁ h' (fun y => if y = "text" then some (.str t u) else m₁ y) cm₁ [(I, oI), (b, W.listOf (List.toArray (rv.take c' ++ .str t u :: rv.drop c')) nR'), (a, W.listOf (List.toArray (nv.take c ++ .str t u :: nv.drop c)) nN')]) (if_isnot ?_) ?_
    · refine C_Call_fn (f := 60) (o := ⟨oc6, od6, .func fd6, osl6⟩) rfl (nmG G S₂.F.keep (mg_60 G) ⟨rfl, ?_⟩ rfl rfl rfl (by decide))
      refine C_args_cons (wpC_of (ldC S₂.C (c := L + 1 + 1 + 1 + 1) rfl cr ?_))
      refine C_args_cons (wpC_of (ldLoc S₂.F rfl ?_))
      refine C_args_nil (C_kws_cons (wpC_of (nmG G S₂.F.keep (mg_44 G) ?_ rfl rfl rfl (by decide))))
      refine C_kws_nil ⟨S₂.F.keep _ _ (G.X _ _ h60), ?_⟩
      refine ins_row (l1 := [(I, oI)]) (l2 := [(a, _)]) (c := c') (key44 prog w mg mb) h44 G rfl rfl S₂ (by omega) (by omega) ⟨d.1, d.2, by omega, hdok.2.2, ht, rfl⟩ (fun j hj => ?_) fun h' tk' n' S' => ⟨rfl, rfl, h', tk', n', rfl, S'⟩
      obtain ⟨x, hx, e, he, t', u', hv', ht'⟩ := h4.get j hj
      have heok := hD.2.2 e (List.mem_of_getElem? he)
      refine ⟨t', u', cvOf e.1 e.2, by rw [List.getElem?_eq_getElem hj, hv'], ⟨e.1, e.2, by omega, heok.2.2, ht', rfl⟩, cv_ok hdok.2.2 heok.2.2, ?_⟩
      rw [cv_lt hdok.2.2 heok.2.2]
      have := c2' j x hx
      rw [gD he] at this
      exact this
    rintro s' ⟨h'', tk'', nR', rfl, S₃⟩
    refine C_execs_nil ⟨rfl, h'', tk'', hf₁, _, cm₁, [(b, W.listOf (List.toArray (rv.take c' ++ .str t u :: rv.drop c')) nR'), (a, W.listOf (List.toArray (nv.take c ++ .str t u :: nv.drop c)) nN')], rfl, S₃, fun _ _ e => e, rfl, mn₁, _, _, nN', nR', nD.take c ++ d :: nD.drop c, rI.take c' ++ i :: rI.drop c', rfl, h1.ins c ⟨t, u, rfl, ht⟩, ?_, ?_, h4.ins c' ⟨d, hd, t, u, rfl, ht⟩, ?_, ?_⟩
    · rw [List.take_add_one, hd]
      exact (perm_ins nD c d).trans (h2.append_right _)
    · refine pairwise_ins h3 (fun j e hj he => ?_) fun j e hj he => ?_
      · have := c2 j e he
        rw [decide_eq_true_eq] at this
        exact fun q => absurd (this.mp q) (by omega)
      · have := c2 j e he
        rw [decide_eq_true_eq] at this
        exact fun q => List.lt_irrefl _ (List.lt_trans (this.mpr hj) q)
    · rw [List.range_succ]
      exact (perm_ins rI c' i).trans (h5.append_right _)
    · have hki : ∀ {x}, x ∈ rI → x < i := fun {x} hx => List.mem_range.mp (h5.mem_iff.mp hx)
      refine pairwise_ins h6 (fun j x hj hx => ?_) fun j x hj hx => ?_
      · have q := c2' j x hx
        rw [decide_eq_true_eq] at q
        have q' : ¬ code d < code (D.getD x (0, 0)) := fun z => absurd (q.mp z) (by omega)
        have := hki (List.mem_of_getElem? hx)
        unfold rk
        rw [gD hd]
        omega
      · have q := c2' j x hx
        rw [decide_eq_true_eq] at q
        have q' := q.mpr hj
        have := hki (List.mem_of_getElem? hx)
        unfold rk
        rw [gD hd]
        omega
  · rintro hf₁ h tk m₁ cm₁ led₁ hff ⟨rfl, mn₁, nv, rv, nN₁, nR₁, nD, rI, rfl, h1, h2, h3, h4, h5, h6⟩ S₁
    have S₂ := (S₁.sub (List.nil_sublist _)).frz
    have hlen : vsT.length = D.length := hT.len
    rw [hlen] at h2 h5
    rw [List.take_length] at h2
    refine ⟨rfl, h, tk, _, m₁, nv, rv, nD, rI, rfl, S₂, fun x o e => (S₁.sub (List.nil_sublist _)).frzS _ _ (hff _ _ e), mn₁, ?_, ?_, h1, h2, h3, h4, h5, h6⟩
    · exact ⟨_, (S₁.sub (List.nil_sublist _)).frz_seq (S₁.N (a, W.listOf (List.toArray nv) nN₁) (by simp)).1 rfl (by simp), rfl, _, rfl⟩
    · exact ⟨_, (S₁.sub (List.nil_sublist _)).frz_seq (S₁.N (b, W.listOf (List.toArray rv) nR₁) (by simp)).1 rfl (by simp), rfl, _, rfl⟩
end Lw6

section Lw7
open TI LCg PySem.SeqAt
theorem uniq_sorted {α : Type} {R : α → α → Prop} (anti : ∀ x y, R x y → R y x → x = y) : ∀ {a b : List α}, a.Perm b → a.Pairwise R → b.Pairwise R → a = b
  | [], b, p, _, _ => (List.perm_nil.mp p.symm).symm
  | x :: a, [], p, _, _ => (List.perm_nil.mp p)
  | x :: a, y :: b, p, h1, h2 => by
    have e : x = y := by
      have hx : x ∈ y :: b := p.mem_iff.mp List.mem_cons_self
      have hy : y ∈ x :: a := p.mem_iff.mpr List.mem_cons_self
      rcases List.mem_cons.mp hx with e | hx
      · exact e
      · rcases List.mem_cons.mp hy with e | hy
        · exact e.symm
        · exact anti _ _ ((List.pairwise_cons.mp h1).1 y hy) ((List.pairwise_cons.mp h2).1 x hx)
    subst e
    rw [uniq_sorted anti (p.cons_inv) (List.pairwise_cons.mp h1).2 (List.pairwise_cons.mp h2).2]
noncomputable def LxLe (x y : List Nat) : Prop := ¬ y < x
theorem lx_anti (x y : List Nat) (h : LxLe x y) (k : LxLe y x) : x = y := List.le_antisymm (List.not_lt.mp h) (List.not_lt.mp k)
theorem lx_trans {x y z : List Nat} (h : LxLe x y) (k : LxLe y z) : LxLe x z := List.not_lt.mpr (List.le_trans (List.not_lt.mp h) (List.not_lt.mp k))
theorem rising_pw : ∀ (l : List Str) (p : Str), risingS p l = true → (p :: l).Pairwise (fun a b => LxLe a.cps.toList b.cps.toList)
  | [], p, _ => List.pairwise_singleton _ _
  | x :: r, p, h => by
    simp only [risingS, Bool.and_eq_true, Bool.not_eq_true', ltCps_eq, decide_eq_false_iff_not] at h
    have ih := rising_pw r x h.2
    refine List.pairwise_cons.mpr ⟨fun y hy => ?_, ih⟩
    rcases List.mem_cons.mp hy with rfl | hy
    · exact h.1
    · exact lx_trans h.1 ((List.pairwise_cons.mp ih).1 y hy)
theorem sorted_pw {l : List Str} (h : sortedS l = true) : l.Pairwise (fun a b => LxLe a.cps.toList b.cps.toList) := by
  cases l with
  | nil => exact .nil
  | cons x r => exact rising_pw r x h
theorem txt_strs {vs : List Value} {D : List (Nat × Nat)} (h : All2 TxtV vs D) : ∃ ss : List Str, StrsAre vs ss ∧ ss.map (fun x => x.cps.toList) = D.map txt := by
  induction h with
  | nil => exact ⟨[], .nil, rfl⟩
  | cons h _ ih =>
    obtain ⟨ss, i1, i2⟩ := ih
    obtain ⟨t, u, rfl, ht⟩ := h
    exact ⟨t :: ss, .cons t u i1, by rw [List.map_cons, List.map_cons, i2]; congr 1⟩
theorem map_cps_inj : ∀ {a b : List Str}, a.map (fun x => x.cps.toList) = b.map (fun x => x.cps.toList) → a = b
  | [], [], _ => rfl
  | [], _ :: _, h => by cases h
  | _ :: _, [], h => by cases h
  | ⟨x⟩ :: a, ⟨y⟩ :: b, h => by
    simp only [List.map_cons, List.cons.injEq] at h
    rw [map_cps_inj h.2, Array.toList_inj.mp h.1]
theorem strs_get {vs : List Value} {ss : List Str} (h : StrsAre vs ss) {j : Nat} (hj : j < vs.length) : ∃ u t, vs[j] = .str t u ∧ ss[j]? = some t := by
  obtain ⟨x, u, e1, e2⟩ := strs_at h (List.getElem?_eq_getElem hj)
  exact ⟨u, x, e1, e2⟩
/-- two lists of equal texts do not differ -/
theorem ne_strs {A : Around} {s : Shared} {l b : Addr} {vs ws : List Value} {ss : List Str} (hl : s.heap.IsList l (List.toArray vs)) (hb : s.heap.IsList b (List.toArray ws)) (h1 : StrsAre vs ss) (h2 : StrsAre ws ss) (hu : A.units < cLine) : RcNeAt A s (.ref l) (.ref b) false := by
  have hz : vs.length = ws.length := by rw [h1.length, h2.length]
  have r := RcNeAt.lists (e := fun _ => true) hl hb (by simpa using hz) hu fun j q1 q2 => by
    have q1' : j < vs.length := by simpa using q1
    have q2' : j < ws.length := by simpa using q2
    obtain ⟨u1, t1, e1, g1⟩ := strs_get h1 q1'
    obtain ⟨u2, t2, e2, g2⟩ := strs_get h2 q2'
    rw [g1] at g2
    obtain rfl := Option.some.inj g2
    have := EqAt.str_str (A := A.in1) (s := s) t1 u1 t1 u2
    rw [beq_self_eq_true] at this
    simpa [e1, e2] using this
  have e : (!(List.range (List.toArray vs).size).all fun _ => true) = false := by simp
  rw [e] at r
  exact r
section
variable {M : Model} {A : Around} {E : Value → Shared → Prop} {s : Shared} {env : Env}
/-- a call of a built-in by its name, under the caller -/
theorem C_Call_b {id : Str} {p pos : Pos} {e : PySem.Expr} {rest : List PySem.Expr} {T : String} {Q : Value → Shared → Prop}
    (h : wpAny M A (eval (.Name id p) env) (fun fv s₁ => fv = .builtin T ∧ wpC M A (spliced (backTo pos (starEach (e :: rest) env))) (fun vs s₂ => wpC M A (call (.builtin T) vs []) Q E s₂) E s₁) E s)
    (he : starEach (e :: rest) env = (false, eval e env) :: starEach rest env := by rfl)
    (hplain : (backTo pos (starEach rest env)).any (·.1) = false := by rfl) :
    wpC M A (eval (.Call (.Name id p) (e :: rest) [] pos) env) Q E s := by
  rw [arm_eval_Call_Name']
  refine wpC_then (wpAny_mono h (fun fv s₁ h₁ => ?_) fun _ _ x => x)
  obtain ⟨rfl, h₁⟩ := h₁
  rw [he] at h₁ ⊢
  have hp : (backTo pos ((false, eval e env) :: starEach rest env)).any (·.1) = false := by show (false || (backTo pos (starEach rest env)).any (·.1)) = false; rw [hplain]; rfl
  unfold callWith
  refine wpC_bind (wpC_holding (C_evalArgs rfl (wpC_mono h₁ (fun vs s₂ h₂ => wpC_of (wpAny_evalAll_nil (wpC_then (wpAny_standAt ?_)))) fun _ _ x => x)))
  rw [hp]
  refine wpC_then (wpAny_pure ?_)
  exact wpC_bind (wpC_mono h₂ (fun r s₂ hr => wpC_then (wpAny_holding (wpAny_point (wpC_pure hr)))) fun _ _ x => x)
theorem nmB {w : World} {mg mb : Str → Option Value} {h₀ : Heap} {x : Str} {pos : Pos} {v : Value} {Q : Value → Shared → Prop} (G : Gr w mg mb h₀) (k : h₀.StaysIn s.heap) (hm : mg x = none) (hv : bootBuiltins x = some v) (hn : x ≠ "__name__") (h : Q v s) (hg : env.globals = mainGlobals) (hb : env.builtins = builtinsNs) (hk : env.scope.kind = .function) (hx : env.kindOf x = some .globalImplicit) (hd : (x == ("__debug__" : Str)) = false) :
    wpAny M A (eval (.Name x pos) env) Q E s := Name_function_global hk hx (loadGlobal_builtin (env := env) (by rw [hg]; exact G.T.g.keeps k) hm (by rw [hb]; exact G.T.b.keeps k) ((G.T.builtins x hn).trans hv) h) hd
theorem mgn_sorted {w : World} {mg mb : Str → Option Value} {h : Heap} (G : Gr w mg mb h) : mg "sorted" = none := mg_none_of G.X G.T.g (by k_is)
theorem mgn_range {w : World} {mg mb : Str → Option Value} {h : Heap} (G : Gr w mg mb h) : mg "range" = none := mg_none_of G.X G.T.g (by k_is)
theorem mgn_len {w : World} {mg mb : Str → Option Value} {h : Heap} (G : Gr w mg mb h) : mg "len" = none := mg_none_of G.X G.T.g (by k_is)
end
theorem al_u0 (e : Env) : (callerA.deeper e).units < cLine := Nat.lt_of_le_of_lt (Nat.le_add_right _ 0) (al_units e (n := 0) (by decide))
/-- a statement that only looks -/
noncomputable def Rk (h₀ : Heap) (L : Addr) (hf : Heap) (m cm : Str → Option Value) (s : Shared) (s' : Shared) : Prop :=
  ∃ h tk, s' = { s with heap := h, toks := tk } ∧ Ls h₀ L (lawCs L) hf h m cm []
theorem if_ne {prog : Program} {w : World} {A : Around} {s : Shared} {env : Env} {l r : PySem.Expr} {p1 p2 : Pos} {body : List Stmt} {Q : Flow → Shared → Prop}
    (h : wpC (model prog w) A (eval l env) (fun x s₁ => wpC (model prog w) A (eval r env) (fun y s₂ => RcNeAt A s₂ x y false ∧ Q .next s₂) no s₁) no s) (hm : behindInMarks .NotEq r = false) : wpC (model prog w) A (exec (.If (.Compare l [.NotEq] [r] p1) body [] p2) env) Q no s := by
  refine C_If (C_isTrue_Compare1 (hm := hm) (wpC_mono h (fun x s₁ q => wpC_mono q (fun y s₂ q => ?_) fun _ _ q => q) fun _ _ q => q))
  refine q.1 prog w _ _ (wpAny_truthy_bool ?_)
  rw [if_neg Bool.false_ne_true]
  exact C_execs_nil q.2
theorem law_7 {prog : Program} {w : World} {s : Shared} {mg mb : Str → Option Value} {h₀ hf : Heap} {L fa a aT : Addr} {cd : Value} {m cm : Str → Option Value} {D nD : List (Nat × Nat)} {vsT nv : List Value}
    (G : Gr w mg mb h₀) (S : Ls h₀ L (lawCs L) hf s.heap m cm []) (hD : Dok D) (mn : m "named" = some (.ref a)) (ct : cm "texts" = some (.ref aT)) (hl : hf.IsList aT (List.toArray vsT)) (hT : All2 TxtV vsT D)
    (hn : hf.IsList a (List.toArray nv)) (hN : All2 TxtV nv nD) (hp : nD.Perm D) (hs : nD.Pairwise TxLe) :
    wpC (model prog w) (AL L fa cd) (exec (stOf 13 6) (lawEnv L fa cd)) (NextR (Rk h₀ L hf m cm s)) no s := by
  show wpC _ (Around.deeper _ (envOfC _ (Scope.mk _ _ _ _ _) _ _ _)) (exec (Stmt.If (PySem.Expr.Compare (PySem.Expr.Name _ _) _ [PySem.Expr.Call (PySem.Expr.Name _ _) [PySem.Expr.Name _ _] _ _] _) _ [] _) (envOfC _ (Scope.mk _ _ _ _ _) _ _ _)) _ _ _
  refine if_ne (wpC_of (ldLoc S.F mn ?_)) rfl
  refine C_Call_b (T := "sorted") (nmB G S.F.keep (mgn_sorted G) boot_sorted (by decide) ⟨rfl, ?_⟩ rfl rfl rfl rfl (by decide))
  refine C_args_cons (wpC_of (ldC S.C (c := L + 1) rfl ct ?_))
  refine C_args_nil ?_
  obtain ⟨sT, t1, t2⟩ := txt_strs hT
  obtain ⟨sN, n1, n2⟩ := txt_strs hN
  have hlen : vsT.length = D.length := hT.len
  have h10 := hD.2.1
  refine wpC_of (sorted_N_str S.F S.all (isList_keeps hl S.K) t1 (by omega) fun h' vs' ss' ep F' N' h1 h2 h3 => ?_)
  obtain ⟨S', kk⟩ := S.walked F' fun p hp => N' p (List.mem_cons_of_mem _ hp)
  have e : sN = ss' := by
    refine map_cps_inj (uniq_sorted lx_anti ?_ ?_ ?_)
    · refine List.Perm.trans ?_ (h2.map _).symm
      rw [n2, t2]
      exact hp.map _
    · rw [n2]
      exact List.pairwise_map.mpr hs
    · exact List.pairwise_map.mpr (sorted_pw h3)
  subst e
  have hn' : h'.IsList a (List.toArray nv) := isList_keeps hn S'.K
  have hs' : h'.IsList (s.heap.objs.size + 1) (List.toArray vs') := ⟨_, (N' (_, seqObj "list" (List.toArray vs') ep) List.mem_cons_self).1, rfl, ep, rfl⟩
  exact ⟨ne_strs (s := { s with heap := h' }) hn' hs' n1 h1 (al_u0 _), rfl, h', s.toks, rfl, S'⟩
end Lw7

section Sr8
open TI LCg PySem.SeqAt
theorem list_lt_call {prog : Program} {w : World} {X : Type} {K : Lv X} (O : LvOk K) {A : Around} {E : Value → Shared → Prop} {s : Shared} {v v' : Value} {xs ys : List X} {Q : Value → Shared → Prop} (h1 : K.list.rd s.heap v xs) (h2 : K.list.rd s.heap v' ys) (hu : A.units + (K.dep + 2) < cLine) (hok : K.list.ok xs ys = true)
    (h : Q (.bool (K.list.cmp .Lt xs ys)) s) : wpAny (model prog w) A (call (.builtin "list.__lt__") [v, v']) Q E s := by
  obtain ⟨a, vs, rfl, hl, hi⟩ := h1
  obtain ⟨b, ws, rfl, hb, hj⟩ := h2
  obtain ⟨⟨cls, dd, data, sl⟩, ho, hc, n, hd⟩ := id hl
  obtain ⟨⟨cls2, dd2, data2, sl2⟩, ho2, hc2, n2, hd2⟩ := id hb
  simp only at hc hd hc2 hd2
  subst hc hd hc2 hd2
  have he := items_eq (A := A.in1) O hi hj (by show A.units + 1 + K.dep < cLine; omega)
  have hcc := items_op (A := A.in1) O (.inl rfl) hi hj (by show A.units + 1 + K.dep < cLine; omega) hok
  have ans := scan_lex K.eq (K.cmp .Lt) (.inl rfl) xs ys
  rw [← hi.len, ← hj.len] at ans
  have h' : Q (.bool (scan (atB K.eq xs ys) (atB (K.cmp .Lt) xs ys) (szB .Lt vs.toArray.size ws.toArray.size) 0 (min vs.toArray.size ws.toArray.size))) s := by
    simp only [List.size_toArray]
    rw [ans]; exact h
  exact call_meets PySem.F.slot_list_lt ⟨_, ho, rfl⟩ PySem.F.entry_list_lt (PySem.F.args_list_lt_2 _ _) (list_ltAt (.inl ⟨rfl, rfl⟩) a b vs.toArray ws.toArray n n2 dd dd2 sl sl2 (atB K.eq xs ys) (atB (K.cmp .Lt) xs ys)) ⟨ho, ho2, he, hcc, h'⟩
theorem oneLt_list {prog : Program} {w : World} {X : Type} {K : Lv X} (O : LvOk K) {A : Around} {E : Value → Shared → Prop} {s : Shared} {v v' : Value} {xs ys : List X} {Q : Bool → Shared → Prop} (h1 : K.list.rd s.heap v xs) (h2 : K.list.rd s.heap v' ys) (hu : A.units + (K.dep + 2) < cLine) (hok : K.list.ok xs ys = true)
    (h : Q (K.list.cmp .Lt xs ys) s) : wpAny (model prog w) A (oneLt' true v v') Q E s := by
  rw [oneLt'_eq]
  simp only [if_true]
  refine wpAny_bind (wpAny_cRoomFor (by omega) ?_)
  have hT : s.TypeIs v "list" := by
    obtain ⟨a, vs, rfl, hl, _⟩ := h1
    exact hl.typeIs
  refine wpAny_bind (wpAny_callSpecialIfBound?_slot hT PySem.F.slot_list_lt (list_lt_call O h1 h2 hu hok ?_))
  exact wpAny_truthy_bool h
/-- a pair: what its release's ranks are, and its place -/
noncomputable def PairV (D : List (Nat × Nat)) (hf : Heap) (v : Value) (j : Nat) : Prop := ∃ T q t d, v = .ref T ∧ hf.IsTuple T #[q, .int (j : Int) t] ∧ D[j]? = some d ∧ RankV hf q d
theorem ask_rk {prog : Program} {w : World} {A : Around} {D : List (Nat × Nat)} {vs : List Value} {s : Shared} (hD : ∀ d ∈ D, d.2 < 7) (hz : D.length ≤ 60) (hv : All2 (PairV D s.heap) vs (List.range D.length)) (hu : A.units + 10 < cLine) :
    SrtC (kas_ask prog w A (tuples' true) vs) (rk D) D.length s := by
  intro i j C hi hj hC
  have hlen : vs.length = D.length := by rw [hv.len, List.length_range]
  have at_ : ∀ {i}, i < D.length → ∃ T q t d, vs.getD i .none = .ref T ∧ s.heap.IsTuple T #[q, .int (i : Int) t] ∧ D[i]? = some d ∧ RankV s.heap q d := fun {i} hi => by
    obtain ⟨k, hk, T, q, t, d, e1, e2, e3, e4⟩ := hv.get i (by omega)
    rw [List.getElem?_range hi] at hk
    obtain rfl := Option.some.inj hk
    exact ⟨T, q, t, d, by rw [List.getD_eq_getElem?_getD, List.getElem?_eq_getElem (by omega), e1]; rfl, e2, e3, e4⟩
  obtain ⟨T, q, t, d, e1, ⟨o, ho, hoc, n, hod⟩, e3, e4⟩ := at_ hi
  obtain ⟨T', q', t', d', e1', ⟨o', ho', hoc', n', hod'⟩, e3', e4'⟩ := at_ hj
  have hd := hD d (List.mem_of_getElem? e3)
  have hd' := hD d' (List.mem_of_getElem? e3')
  have r1 : rk D i = code d * 64 + i := by unfold rk; rw [List.getD_eq_getElem?_getD, e3]; rfl
  have r2 : rk D j = code d' * 64 + j := by unfold rk; rw [List.getD_eq_getElem?_getD, e3']; rfl
  unfold kas_ask
  rw [e1, e1']
  refine kat_lt ho hod ho' hod' ?_
  show KatLex prog w A true (decide (2 < 2)) C [(q, q'), (.int (i : Int) t, .int (j : Int) t')] 0 s
  have heq := (LvOk.zero.tuple.list).eqAt (A := A) (s := s) e4 e4' (by show A.units + (0 + 2 + 2) < cLine; omega)
  refine kat_cons (heq prog w _ _ ?_)
  rw [pr_eq hd hd']
  by_cases hc : code d = code d'
  · rw [decide_eq_true hc]
    refine kat_yes (kat_cons (EqAt.int_int (A := A) (s := s) (i : Int) t (j : Int) t' prog w _ _ ?_))
    by_cases hij : i = j
    · subst hij
      rw [beq_self_eq_true]
      refine kat_yes (kat_nil ?_)
      rw [decide_eq_false (Nat.lt_irrefl (rk D i))] at hC
      exact hC
    · rw [beq_eq_false_iff_ne.mpr (by omega)]
      refine kat_no (kat_one _ _ (lt_int ?_))
      rw [r1, r2] at hC
      have e : decide (code d * 64 + i < code d' * 64 + j) = decide ((i : Int) < (j : Int)) := decide_eq_decide.mpr (by omega)
      rw [e] at hC
      exact hC
  · rw [decide_eq_false hc]
    refine kat_no (oneLt_list LvOk.zero.tuple e4 e4' (by show A.units + (0 + 2 + 2) < cLine; omega) (pr_ok hd hd') ?_)
    rw [pr_lt hd hd']
    rw [r1, r2] at hC
    have e : decide (code d * 64 + i < code d' * 64 + j) = decide (code d < code d') := decide_eq_decide.mpr (by omega)
    rw [e] at hC
    exact hC
theorem rk_inj {D : List (Nat × Nat)} (hz : D.length ≤ 60) : SrtI (rk D) D.length := fun i j hi hj h => by
  unfold rk at h
  omega
theorem kat_fs {D : List (Nat × Nat)} {h : Heap} {vs : List Value} {js : List Nat} (hv : All2 (PairV D h) vs js) : ∃ fs, KatTups h vs fs ∧ (∀ f ∈ fs, ∃ a its, f = .ref a ∧ h.IsList a its) ∧ fs.length = vs.length := by
  induction hv with
  | nil => exact ⟨[], trivial, (fun _ q => nomatch q), rfl⟩
  | cons q _ ih =>
    obtain ⟨fs, i1, i2, i3⟩ := ih
    obtain ⟨T, q, t, d, rfl, ⟨o, ho, hc, n, hd⟩, _, a, us, rfl, hl', _⟩ := q
    refine ⟨.ref a :: fs, KatTups.cons ho hc hd rfl i1, fun f hf => ?_, by simp [i3]⟩
    rcases List.mem_cons.mp hf with rfl | hf
    · exact ⟨a, _, rfl, hl'⟩
    · exact i2 f hf
/-- sorted of the pairs -/
theorem sorted_rk {prog : Program} {w : World} {A : Around} {E : Value → Shared → Prop} {s : Shared} {h₀ hf : Heap} {L : Addr} {cs : List (Str × Addr)} {m cm : Str → Option Value} {led : List (Addr × Obj)} {D : List (Nat × Nat)} {l : Addr} {vs : List Value} {Q : Value → Shared → Prop}
    (S : Ls h₀ L cs hf s.heap m cm led) (hD : ∀ d ∈ D, d.2 < 7) (h2 : 2 ≤ D.length) (hz : D.length ≤ 60) (hl : hf.IsList l (List.toArray vs)) (hv : All2 (PairV D hf) vs (List.range D.length)) (hu : A.units + 20 < cLine)
    (h : ∀ (D' : Addr) (c : Nat) (h' : Heap) (rI : List Nat), Ls h₀ L cs hf h' m cm led → h'.get? D' = some (W.listOf (List.toArray (rI.map fun i => vs.getD i Value.none)) c) → rI.Perm (List.range D.length) → rI.Pairwise (fun x y => rk D x < rk D y) → Q (.ref D') { s with heap := h' }) :
    wpAny (model prog w) A (call (.builtin "sorted") [.ref l]) Q E s := by
  have hlen : vs.length = D.length := by rw [hv.len, List.length_range]
  refine kat_sorted S.F S.all (isList_keeps hl S.K) (by omega) (by omega) fun D' e1 h' F' N' hlt => ?_
  obtain ⟨S', k'⟩ := S.walked F' fun p hp => N' p (List.mem_cons_of_mem _ hp)
  have hv' : All2 (PairV D h') vs (List.range D.length) := hv.mono fun v j => by
    rintro ⟨T, q, t, d, a1, a2, a3, a4⟩
    exact ⟨T, q, t, d, a1, isTuple_keeps a2 S'.K, a3, LvOk.zero.tuple.list.keeps a4 S'.K⟩
  obtain ⟨fs, hfs, hls⟩ := kat_fs hv'
  refine kat_kind hfs (T := .type "list") (by rw [hls.2]; omega) (fun v hv => ?_) rfl ?_
  · obtain ⟨a, its, rfl, o, ho, hc, _⟩ := hls.1 v hv
    rw [← hc]
    exact (show Looks (model prog w) h' (typeOf (.ref a)) o.cls from (Looks.ld ho).andThen .now)
  show KasT.kasWp (kas_ask prog w A.in1.in1 (tuples' true) vs) (kas_sort vs.length) _ { s with heap := h' }
  rw [hlen]
  refine srt_sort (ask_rk (s := { s with heap := h' }) hD hz hv' (by show A.units + 1 + 1 + 10 < cLine; omega)) (rk_inj hz) h2 fun p hp hs => ?_
  refine KasFin.intro F' N' (.head fun q hq => ?_) fun h'' c F'' N'' => ?_
  · exact Nat.ne_of_lt (hlt q hq)
  · obtain ⟨S'', _⟩ := S.walked F'' fun p hp => N'' p (List.mem_cons_of_mem _ hp)
    refine h D' c h'' p.toList S'' (N'' _ List.mem_cons_self).1 hp ?_
    rw [List.pairwise_iff_getElem]
    intro i j hi hj hij
    have hz' := srt_size hp
    have hi' : i < p.size := by simpa using hi
    have hj' : j < p.size := by simpa using hj
    have := hs i j hij (by omega)
    unfold SrtK at this
    have g1 : p.getD i 0 = p.toList[i] := by simp [Array.getD, hi']
    have g2 : p.getD j 0 = p.toList[j] := by simp [Array.getD, hj']
    rw [g1, g2] at this
    exact this
end Sr8

section Lw8
open TI LCg PySem.SeqAt
section
variable {prog : Program} {w : World} {A : Around} {E : Value → Shared → Prop} {s : Shared} {env : Env}
theorem A_Subscript {M : Model} {value slice : PySem.Expr} {pos : Pos} {Q : Value → Shared → Prop}
    (h : wpAny M A (eval value env) (fun o s₁ => wpAny M A (eval slice env) (fun i s₂ => wpAny M A (subscriptTail value slice o i) Q E s₂) E s₁) E s) : wpAny M A (eval (.Subscript value slice pos) env) Q E s := by
  rw [arm_eval_Subscript]
  refine wpAny_bind (wpAny_mono h (fun o s₁ h₁ => wpAny_bind (wpAny_holding (wpAny_mono h₁ (fun i s₂ h₂ => wpAny_bind (wpAny_standAt h₂)) fun _ _ x => x))) fun _ _ x => x)
theorem item_dict {value slice : PySem.Expr} {d : Addr} {f : Str → Option Value} {t : Str} {u : Tok} {v : Value} {Q : Value → Shared → Prop} (hm : s.heap.MapOf (PySem.strKind prog w) d f) (hv : f t = some v) (h : Q v { s with toks := s.toks + 1 })
    (hs : subscripted slice false (.ref d) (.str t u) = operate [.ref d, .str t u] (getItem (.ref d) (.str t u)) := by with_unfolding_all rfl) :
    wpAny (model prog w) A (subscriptTail value slice (.ref d) (.str t u)) Q E s :=
  tail_any hm.typeIs slot_dict_getitem.lookup (wpAny_getItem_of (knd := PySem.strKind prog w) (k := t) (show (PySem.strKind prog w).is t (.str t u) = true by show (t == t) = true; exact beq_self_eq_true _) hm hv h) hs
theorem asg_tup2 {cenv : Env} {a b : Str} {pa pb tp : Pos} {kk : Nat} {I ax : Addr} {vs : List Value} {hf : Heap} (hA : A.handled = none)
    (ha : cenv.kindOf a = some .local) (hb : cenv.kindOf b = some .local) (hp : (cenv.scope.kind == .class || (cenv.scope.kind == .module && cenv.locals != cenv.globals)) = false)
    (hab : a ≠ b) (ht : ∀ v ∈ vs, ∃ T x y, v = .ref T ∧ hf.IsTuple T #[x, y]) :
    AsgOk prog w A cenv (.Tuple [.Name a pa, .Name b pb] kk tp) I (fun i v => (List.toArray vs)[i]? = some v) (fun i h => h.IsListIter I ax i ∧ h.IsList ax (List.toArray vs)) hf
      (fun _ v m => ∃ T x y, v = .ref T ∧ hf.IsTuple T #[x, y] ∧ m a = some x ∧ m b = some y) := by
  intro i v s m₁ Q hP hst hk hn h
  obtain ⟨T, x, y, rfl, hT⟩ := ht v (List.mem_of_getElem? (l := vs) (i := i) (by simpa using hP))
  refine wpAny_letOwnedTupleGo_listiter hst.1 ?_
  refine wpAny_assign_Tuple hA (isTuple_keeps hT hk) rfl rfl fun h₁ he₁ => ?_
  have hL : cenv.locals ≠ s.heap.objs.size := Nat.ne_of_lt hn.lt
  have hn₁ : h₁.Ns cenv.locals m₁ := hn.at' fun o e => he₁ _ o hL e
  have up₁ : ∀ c o, s.heap.get? c = some o → h₁.get? c = some o := fun c o e => he₁ c o (Nat.ne_of_lt (Heap.lt_size e)) e
  show wpAny _ _ (assignInOrder [assign (.Name a pa) cenv, assign (.Name b pb) cenv] [x, y]) _ _ _
  refine assignInOrder_cons ?_
  refine wpAny_assign_Name (wpAny_storeName_local ha hn₁ (fun h₂ hn₂ hs₂ => ?_) hp)
  refine assignInOrder_cons ?_
  refine wpAny_assign_Name (wpAny_storeName_local hb hn₂ (fun h₃ hn₃ hs₃ => ?_) hp)
  refine assignInOrder_nil ?_
  exact h h₃ _ _ (fun c o hc e => hs₃.extBut c o hc (hs₂.extBut c o hc (up₁ c o e))) hn₃ ⟨T, x, y, rfl, hT, by simp [hab], by simp⟩
/-- range(len(a list)) -/
theorem ev_range_len {mg mb : Str → Option Value} {h₀ hf : Heap} {L l : Addr} {cs : List (Str × Addr)} {m cm : Str → Option Value} {led : List (Addr × Obj)} {vs : List Value} {e : PySem.Expr} {p1 p2 p3 p4 : Pos} (G : Gr w mg mb h₀) (S : Ls h₀ L cs hf s.heap m cm led)
    (hname : ∀ (Q : Value → Shared → Prop), Q (.ref l) s → wpAny (model prog w) A (eval e env) Q no s) (hl : hf.IsList l (List.toArray vs)) (hz : vs.length ≤ 1000)
    (hg : env.globals = mainGlobals) (hb : env.builtins = builtinsNs) (hk : env.scope.kind = .function) (h1 : env.kindOf "range" = some .globalImplicit) (h2 : env.kindOf "len" = some .globalImplicit) 
    (he : starEach [e] env = [(false, eval e env)] := by rfl) :
    wpC (model prog w) A (eval (.Call (.Name "range" p1) [.Call (.Name "len" p2) [e] [] p3] [] p4) env) (fun v s' => ∃ r t u x h tk, v = .ref r ∧ s' = { s with heap := h, toks := tk } ∧ Ls h₀ L cs hf h m cm led ∧ IsRange h r 0 ((vs.length : Nat) : Int) 1 t u x) no s := by
  refine C_Call_type (T := "range") (nmB G S.F.keep (mgn_range G) (by decide +kernel) (by decide) ⟨rfl, ?_⟩ hg hb hk h1 (by decide))
  refine C_args_cons (C_Call_b (T := "len") (nmB G S.F.keep (mgn_len G) (by decide +kernel) (by decide) ⟨rfl, ?_⟩ hg hb hk h2 (by decide)) he)
  refine C_args_cons (wpC_of (hname _ ?_)) he
  refine C_args_nil (wpC_of (call_len_list (isList_keeps hl S.K) (by simp; omega) ?_))
  refine C_args_nil (wpC_of ?_)
  simp only [List.size_toArray]
  refine call_range_1 ?_
  exact ⟨_, _, _, _, _, _, rfl, rfl, S.keeps (push_stays _ _), Heap.get?_push_size _ rfl⟩
end
theorem ne_txt {A : Around} {s : Shared} {l b : Addr} {vs ws : List Value} {D : List (Nat × Nat)} (hl : s.heap.IsList l (List.toArray vs)) (hb : s.heap.IsList b (List.toArray ws)) (h1 : All2 TxtV vs D) (h2 : All2 TxtV ws D) (hu : A.units < cLine) : RcNeAt A s (.ref l) (.ref b) false := by
  obtain ⟨ss, a1, a2⟩ := txt_strs h1
  obtain ⟨ss', b1, b2⟩ := txt_strs h2
  obtain rfl := map_cps_inj (a2.trans b2.symm)
  exact ne_strs hl hb a1 b1 hu
theorem row_txt {D : List (Nat × Nat)} {vs : List Value} {I : List Nat} (h : All2 (RowV D) vs I) : All2 TxtV vs (I.map fun j => D.getD j (0, 0)) := by
  induction h with
  | nil => exact .nil
  | cons q _ ih =>
    obtain ⟨d, hd, ht⟩ := q
    refine .cons ?_ ih
    show TxtV _ (D.getD _ (0, 0))
    rw [List.getD_eq_getElem?_getD, hd]
    exact ht
theorem Ls.rdC {h₀ hf h : Heap} {L c : Addr} {cs : List (Str × Addr)} {m cm : Str → Option Value} {led : List (Addr × Obj)} {x : Str} {v : Value} (S : Ls h₀ L cs hf h m cm led) (hc : cs.lookup x = some c) (hv : cm x = some v) : h.IsCell c (some v) := hv ▸ S.C.cell x c hc
theorem uniq_rk {D : List (Nat × Nat)} {a b : List Nat} (p : a.Perm b) (h1 : a.Pairwise fun x y => rk D x < rk D y) (h2 : b.Pairwise fun x y => rk D x < rk D y) : a = b :=
  uniq_sorted (R := fun x y => rk D x < rk D y) (fun x y h k => absurd (Nat.lt_trans h k) (Nat.lt_irrefl _)) p h1 h2
theorem law_8 {prog : Program} {w : World} {s : Shared} {mg mb : Str → Option Value} {h₀ hf : Heap} {L fa b aT aR : Addr} {cd : Value} {m cm : Str → Option Value} {D : List (Nat × Nat)} {vsT rv : List Value} {rI : List Nat} {f : Str → Option Value}
    (G : Gr w mg mb h₀) (S : Ls h₀ L (lawCs L) hf s.heap m cm []) (hD : Dok D) (cr : cm "row" = some (.ref b)) (ct : cm "texts" = some (.ref aT)) (ck : cm "ranks" = some (.ref aR)) (hl : hf.IsList aT (List.toArray vsT)) (hT : All2 TxtV vsT D)
    (hr : hf.IsList b (List.toArray rv)) (hR : All2 (RowV D) rv rI) (hp : rI.Perm (List.range D.length)) (hs : rI.Pairwise fun x y => rk D x < rk D y) (hm : hf.MapOf (PySem.strKind prog w) aR f) (hf' : DictOk f D (RankV hf)) :
    wpC (model prog w) (AL L fa cd) (exec (stOf 13 7) (lawEnv L fa cd)) (NextR (Rk h₀ L hf m cm s)) no s := by
  show wpC _ (Around.deeper _ (envOfC _ (Scope.mk _ _ _ _ _) _ _ _)) (exec (Stmt.If (PySem.Expr.Compare (PySem.Expr.Name _ _) _ [PySem.Expr.ListComp _ [⟨PySem.Expr.Tuple [PySem.Expr.Name _ _, PySem.Expr.Name _ _] _ _, PySem.Expr.Call (PySem.Expr.Name _ _) [PySem.Expr.ListComp _ [⟨PySem.Expr.Name _ _, PySem.Expr.Call (PySem.Expr.Name _ _) [PySem.Expr.Call (PySem.Expr.Name _ _) [PySem.Expr.Name _ _] _ _] _ _, _, 0⟩] (Scope.mk _ _ _ _ _) _] _ _, _, 0⟩] (Scope.mk _ _ _ _ _) _] _) _ [] _) (envOfC _ (Scope.mk _ _ _ _ _) _ _ _)) _ _ _
  have hN : D.length ≤ 10 := hD.2.1
  have h6 : 6 ≤ D.length := hD.1
  have hlT : vsT.length = D.length := hT.len
  refine if_ne (wpC_of (ldC S.C (c := L + 1 + 1 + 1 + 1) rfl cr ?_)) rfl
  refine LC_eval (h₀ := h₀) (L := L) (cs := lawCs L) (m := m) (cm := cm) (led := []) (cl := [(("texts" : Str), L + 1)]) rfl ?clos (by decide) rfl ?nm ?_
  case clos => exact rfl
  case nm => decide
  refine C_Call_b (T := "sorted") (nmB G S.F.keep (mgn_sorted G) boot_sorted (by decide) ⟨rfl, ?_⟩ rfl rfl rfl rfl (by decide))
  refine C_args_cons ?_
  refine LC_eval (h₀ := h₀) (L := L) (cs := lawCs L) (m := m) (cm := cm) (led := []) (cl := [(("texts" : Str), L + 1), (("ranks" : Str), L + 1 + 1)]) rfl ?clos2 (by decide) rfl ?nm2 ?_
  case clos2 => exact rfl
  case nm2 => decide
  refine wpC_mono (ev_range_len G S (fun Q hq => ldC S.C (c := L + 1) rfl ct hq) hl (by omega) rfl rfl rfl rfl rfl) (fun v s' q => .inr ?_) fun _ _ q => q
  obtain ⟨r, t, u, x, h₁, tk₁, rfl, rfl, S₁, hr₁⟩ := q
  refine ⟨r, vsT.length, t, u, x, hf, h₁, tk₁, _, fun i ys hf' => hf.StaysIn hf' ∧ All2 (PairV D hf') ys (List.range i), rfl, rfl, S₁, hr₁, by omega, ⟨fun _ _ e => e, .nil⟩, fun I C => asg_name rfl rfl, ?_, ?_⟩
  · rintro i v ys hf₂ h tk I oI C oC D' m₂ ⟨t', rfl⟩ hi hff ⟨hf02, hall⟩ S₂ hn hpm
    refine T_nil ?_
    rw [if_pos rfl]
    rw [Int.zero_add] at hpm
    obtain ⟨d, hd, tt, ut, hv, ht⟩ := hT.get i hi
    have hdm := List.mem_of_getElem? hd
    obtain ⟨rv', hrv, hrd⟩ := hf' d hdm tt ht
    have hvi : vsT[i]? = some (.str tt ut) := by rw [List.getElem?_eq_getElem hi, hv]
    have hfh : hf.StaysIn h := fun b o e => S₂.K b o (hf02 b o e)
    refine wpC_of (wpAny_Tuple_spliced ?_)
    refine spliced_cons (A_Subscript ?_)
    refine nmC rfl (S₂.rdC (c := L + 1 + 1) rfl ck) ?_ rfl rfl (by decide)
    refine A_Subscript (nmC rfl (S₂.rdC (c := L + 1) rfl ct) (nmL hn hpm ?_ rfl rfl (by decide)) rfl rfl (by decide))
    refine item_list (isList_keeps hl hfh) (by omega) (by omega) (by exact hvi) ?_
    refine item_dict (mapOf_keeps hm hfh) hrv ?_
    refine spliced_cons (nmL hn hpm ?_ rfl rfl (by decide))
    refine spliced_nil ⟨by rw [sizeLine_eq]; simp, ?_⟩
    have S₃ := S₂.keeps (push_stays h { cls := .type "tuple", data := .seq [rv', Value.int (i : Int) t'].toArray })
    refine ⟨_, _, _, rfl, S₃.frzS, ⟨fun b o e => S₃.frzS _ _ (hf02 b o e), ?_⟩, S₃.frz⟩
    rw [List.range_succ]
    refine (hall.mono fun v j => ?_).app (.cons ⟨h.objs.size, rv', t', d, rfl, ⟨_, S₂.frz_new (Heap.get?_push_size _ rfl) (push_fresh _), rfl, _, rfl⟩, hd, ?_⟩ .nil)
    · rintro ⟨T, q, t, d, a1, a2, a3, a4⟩
      exact ⟨T, q, t, d, a1, isTuple_keeps a2 S₃.frzS, a3, LvOk.zero.tuple.list.keeps a4 S₃.frzS⟩
    · exact LvOk.zero.tuple.list.keeps hrd fun b o e => S₃.frzS _ _ (hf02 b o e)
  rintro D1 h tk ys hf₂ hff ⟨hf02, hall⟩ S₂
  rw [hlT] at hall
  have S₃ := S₂.drop1.frz
  have hD1 : (frz h L (lawCs L) []).IsList D1 (List.toArray ys) := ⟨_, S₂.drop1.frz_seq (S₂.N (D1, _) List.mem_cons_self).1 rfl (by simp), rfl, ys.length, rfl⟩
  have hall' : All2 (PairV D (frz h L (lawCs L) [])) ys (List.range D.length) := hall.mono fun v j => by
    rintro ⟨T, q, t, d, a1, a2, a3, a4⟩
    exact ⟨T, q, t, d, a1, isTuple_keeps a2 S₂.drop1.frzS, a3, LvOk.zero.tuple.list.keeps a4 S₂.drop1.frzS⟩
  have hst : hf.StaysIn (frz h L (lawCs L) []) := fun b o e => S₂.drop1.frzS _ _ (hf02 b o e)
  refine C_args_nil (wpC_of (sorted_rk S₃ (fun d hd => (hD.2.2 d hd).2.2) (by omega) (by omega) hD1 hall' (al_units _ (by decide)) fun D' c h' rI' S₄ ho hp' hs' => .inl ?_))
  obtain rfl : rI' = rI := uniq_rk (hp'.trans hp.symm) hs' hs
  have hD' : (frz h' L (lawCs L) []).IsList D' (List.toArray (rI'.map fun i => ys.getD i Value.none)) := ⟨_, S₄.frz_seq ho rfl (by simp), rfl, c, rfl⟩
  have hst' : hf.StaysIn (frz h' L (lawCs L) []) := fun b o e => S₄.frzS _ _ (hst b o e)
  have hyl : ys.length = D.length := by rw [hall'.len, List.length_range]
  have hit : ∀ j, j < D.length → ∃ T q t d, ys.getD j .none = .ref T ∧ (frz h' L (lawCs L) []).IsTuple T #[q, .int (j : Int) t] ∧ D[j]? = some d := fun j hj => by
    obtain ⟨k, hk, T, q, t, d, e1, e2, e3, _⟩ := hall'.get j (by omega)
    rw [List.getElem?_range hj] at hk
    obtain rfl := Option.some.inj hk
    exact ⟨T, q, t, d, by rw [List.getD_eq_getElem?_getD, List.getElem?_eq_getElem (by omega), e1]; rfl, isTuple_keeps e2 S₄.frzS, e3⟩
  have hmem : ∀ {j}, j ∈ rI' → j < D.length := fun {j} hj => List.mem_range.mp (hp'.mem_iff.mp hj)
  refine ⟨D', _, frz h' L (lawCs L) [], h', tk, _, fun i zs hf' => All2 (RowV D) zs (rI'.take i), rfl, rfl, S₄.frz, hD', by rw [List.length_map, hp'.length_eq, List.length_range]; omega, .nil, fun I C => asg_tup2 rfl rfl rfl rfl (by decide) fun v hv => ?_, ?_, ?_⟩
  · obtain ⟨j, hj, rfl⟩ := List.mem_map.mp hv
    obtain ⟨T, q, t, d, e1, e2, _⟩ := hit j (hmem hj)
    exact ⟨T, _, _, e1, e2⟩
  · rintro i v zs hf₃ g tk' I oI C oC D'' m₂ hv hi hff' hzs S₅ hn ⟨T, x', y', rfl, hTT, m1, m2⟩
    refine T_nil ?_
    rw [if_pos rfl]
    rw [List.length_map] at hi
    have hji := List.getElem?_eq_getElem hi
    obtain ⟨T', q, t'', d, e1, e2, e3⟩ := hit rI'[i] (hmem (List.getElem_mem hi))
    have hv' : (rI'.map fun i => ys.getD i Value.none)[i]? = some (.ref T) := by simpa using hv
    rw [List.getElem?_map, hji] at hv'
    have hv'' : ys.getD rI'[i] Value.none = .ref T := by simpa using hv'
    rw [e1] at hv''
    injection hv'' with hTe
    subst hTe
    have qq := isTuple_det hTT e2
    obtain ⟨_, q2⟩ : x' = q ∧ y' = .int (rI'[i] : Int) t'' := by simpa using qq
    subst q2
    have hfh : hf.StaysIn g := fun b o e => S₅.K b o (hff' b o (hst' b o e))
    obtain ⟨d', hd', tt, ut, hvv, ht⟩ := hT.get rI'[i] (by rw [hlT]; exact hmem (List.getElem_mem hi))
    have hvi : vsT[rI'[i]]? = some (.str tt ut) := by rw [List.getElem?_eq_getElem (by rw [hlT]; exact hmem (List.getElem_mem hi)), hvv]
    refine wpC_of (A_Subscript (nmC rfl (S₅.rdC (c := L + 1) rfl ct) (nmL hn m2 ?_ rfl rfl (by decide)) rfl rfl (by decide)))
    have hb10 : rI'[i] < D.length := hmem (List.getElem_mem hi)
    refine item_list (isList_keeps hl hfh) (by omega) (by omega) (by rw [Int.toNat_natCast]; exact hvi) ?_
    refine ⟨g, tk', hf₃, rfl, fun _ _ e => e, ?_, S₅⟩
    show All2 (RowV D) _ (List.take (i + 1) rI')
    rw [List.take_add_one, hji]
    exact hzs.app (.cons ⟨d', hd', tt, ut, rfl, ht⟩ .nil)
  · rintro D'' g tk' zs hf₃ hff' hzs S₅
    rw [List.length_map, List.take_length] at hzs
    have hfh : hf.StaysIn g := fun b o e => S₅.K b o (hff' b o (hst' b o e))
    refine ⟨ne_txt (isList_keeps hr hfh) ⟨_, (S₅.N (D'', _) List.mem_cons_self).1, rfl, zs.length, rfl⟩ (row_txt hR) (row_txt hzs) (al_u0 _), rfl, g, tk', rfl, ?_⟩
    have S₆ := S₅.drop1
    exact ⟨S₆.F, S₆.C, S₆.U, hfh, (fun _ q => nomatch q), .nil, S.O, S.aL, S.aC⟩
end Lw8

section Lw9
open TI LCg PySem.SeqAt
/-- the numbers whose first figure is five or more -/
noncomputable def Sol (n : Nat) : Prop := (5 ≤ n ∧ n < 10) ∨ (50 ≤ n ∧ n < 100) ∨ (500 ≤ n ∧ n < 1000)
theorem cons_lt5 (c : Nat) (r : List Nat) : (c :: r) < [53] ↔ c < 53 := by
  rw [List.cons_lt_cons_iff]
  constructor
  · rintro (h | ⟨_, h⟩)
    · exact h
    · exact absurd h (List.not_lt_nil r)
  · exact fun h => .inl h
theorem txt_lt5 {d : Nat × Nat} (h1 : 1 ≤ d.1) (h2 : d.1 ≤ 999) : txt d < [53] ↔ ¬ Sol d.1 := by
  obtain ⟨n, k⟩ := d
  simp only at h1 h2
  unfold txt Sol
  by_cases a : n < 10
  · rw [dg_lt a, List.singleton_append, cons_lt5]
    omega
  · rw [dg_step (by omega)]
    by_cases b : n < 100
    · rw [dg_lt (show n / 10 < 10 by omega), List.append_assoc, List.singleton_append, cons_lt5]
      omega
    · rw [dg_step (show 10 ≤ n / 10 by omega), dg_lt (show n / 10 / 10 < 10 by omega), List.append_assoc, List.append_assoc, List.singleton_append, cons_lt5]
      omega
noncomputable def R9 (h₀ : Heap) (L : Addr) (hf : Heap) (m cm : Str → Option Value) (nD : List (Nat × Nat)) (s : Shared) (s' : Shared) : Prop :=
  ∃ h tk m' c u, s' = { s with heap := h, toks := tk } ∧ Ls h₀ L (lawCs L) hf h m' cm [] ∧ m' "cut" = some (.int (c : Nat) u) ∧ (∀ y : Str, y ≠ "cut" → m' y = m y) ∧ ∀ i d, nD[i]? = some d → (txt d < [53] ↔ i < c)
theorem Ls.stL {prog : Program} {w : World} {A : Around} {E : Value → Shared → Prop} {s : Shared} {h₀ hf : Heap} {L fa : Addr} {cd : Value} {m cm : Str → Option Value} {led : List (Addr × Obj)} {x : Str} {v : Value} {Q : Unit → Shared → Prop} {name : Str} {scope : Scope} {cs : List (Str × Addr)}
    (S : Ls h₀ L cs hf s.heap m cm led) (hk : scope.kind = .function) (hl : (envOfC name scope L fa cd).kindOf x = some .local)
    (h : ∀ h', Ls h₀ L cs hf h' (fun y => if y = x then some v else m y) cm led → Q () { s with heap := h', toks := s.toks + 1 }) :
    wpAny (model prog w) A (storeName (envOfC name scope L fa cd) x v) Q E s :=
  wpAny_storeName_local hl S.F.ns (fun h' hn hs => h h' (S.setL hn hs)) (by show (scope.kind == .class || (scope.kind == .module && L != mainGlobals)) = false; rw [hk]; rfl)
theorem txLe_mono {nD : List (Nat × Nat)} (hs : nD.Pairwise TxLe) {x : List Nat} : ∀ (i j : Nat) (a b : Nat × Nat), i ≤ j → nD[i]? = some a → nD[j]? = some b → decide (¬ txt a < x) = true → decide (¬ txt b < x) = true := fun i j a b hij ha hb hp => by
  rw [decide_eq_true_eq] at hp ⊢
  rcases Nat.lt_or_ge i j with hlt | hge
  · have hle : ¬ txt b < txt a := pairwise_at hs hlt ha hb
    exact fun q => hp (List.lt_of_le_of_lt (List.not_lt.mp hle) q)
  · obtain rfl : i = j := by omega
    rw [ha] at hb
    obtain rfl := Option.some.inj hb
    exact hp
theorem law_9 {prog : Program} {w : World} {s : Shared} {mg mb : Str → Option Value} {h₀ hf : Heap} {L fa a : Addr} {cd : Value} {m cm : Str → Option Value} {nD : List (Nat × Nat)} {nv : List Value}
    (G : Gr w mg mb h₀) (S : Ls h₀ L (lawCs L) hf s.heap m cm []) (mn : m "named" = some (.ref a)) (hn : hf.IsList a (List.toArray nv)) (hN : All2 TxtV nv nD) (hs : nD.Pairwise TxLe) (hz : nD.length ≤ 10) :
    wpC (model prog w) (AL L fa cd) (exec (stOf 13 8) (lawEnv L fa cd)) (NextR (R9 h₀ L hf m cm nD s)) no s := by
  show wpC _ (Around.deeper _ (envOfC _ (Scope.mk _ _ _ _ _) _ _ _)) (exec (Stmt.Assign [PySem.Expr.Name _ _] (PySem.Expr.Call (PySem.Expr.Name _ _) [PySem.Expr.Name _ _, PySem.Expr.Constant (PySem.Const.str _) _ _] _ _) _) (envOfC _ (Scope.mk _ _ _ _ _) _ _ _)) _ _ _
  obtain ⟨oc, od, fd, osl, h78⟩ := fn_78 w
  have hlen := hN.len
  obtain ⟨c, c1, c2, _⟩ := cut_at (fun d => decide (¬ txt d < [53])) nD (txLe_mono hs)
  refine C_Assign_Name (C_Call_fn (f := 78) (o := ⟨oc, od, .func fd, osl⟩) rfl (nmG G S.F.keep (mg_78 G) ⟨rfl, ?_⟩ rfl rfl rfl (by decide))) (hs := rfl)
  refine C_args_cons (wpC_of (ldLoc S.F mn ?_))
  refine C_args_cons (wpC_of (wpAny_Constant_str ?_))
  refine C_args_nil (C_kws_nil ⟨S.F.keep _ _ (G.X _ _ h78), ?_⟩)
  have c2' : ∀ i d, nD[i]? = some d → (txt d < [53] ↔ i < c) := fun i d hd => by
    have := c2 i d hd
    rw [decide_eq_true_eq] at this
    constructor
    · exact fun q => Nat.lt_of_not_le fun z => this.mpr z q
    · exact fun q => Decidable.byContradiction fun z => absurd (this.mp z) (by omega)
  refine wpC_ofF (bl_str (c := c) (G.keeps S.F.keep) (al_room _ (by decide)) (isList_keeps hn S.K) (by omega) (by omega) (fun i hi => ?_) fun u h' tk' st => ?_)
  · obtain ⟨d, hd, t, u, hv, ht⟩ := hN.get i hi
    refine ⟨t, u, by rw [List.getElem?_eq_getElem hi, hv], ?_⟩
    rw [show t.cps.toList = txt d from ht]
    exact c2' i d hd
  · refine Ls.stL (S.keeps st) rfl rfl fun h'' S' => ?_
    exact ⟨rfl, h'', _, _, c, u, rfl, S', if_pos rfl, fun y hy => if_neg hy, c2'⟩
/-- what system_alias makes of a release -/
noncomputable def AliasOk (d : Nat × Nat) (rel sys rn : Str) : Prop := (txt d < [53] ∧ sys = "SunOS" ∧ rn = rel) ∨ (¬ txt d < [53] ∧ sys = "Solaris" ∧ ((d.2 < 5 ∧ IsT rn (d.1 - 3) d.2) ∨ (5 ≤ d.2 ∧ rn = rel)))
noncomputable def AlR (h₀ : Heap) (L : Addr) (cs : List (Str × Addr)) (hf : Heap) (m cm : Str → Option Value) (led : List (Addr × Obj)) (s : Shared) (P : Str → Str → Prop) (ver : Str) (v : Value) (s' : Shared) : Prop :=
  ∃ T sys rn t1 t2 t3 h tk, v = .ref T ∧ s' = { s with heap := h, toks := tk } ∧ Ls h₀ L cs (frz h L cs led) h m cm led ∧ hf.StaysIn (frz h L cs led) ∧ (frz h L cs led).IsTuple T #[.str sys t1, .str rn t2, .str ver t3] ∧ P sys rn
section
variable {prog : Program} {w : World} {s : Shared} {mg mb : Str → Option Value} {h₀ hf : Heap} {L : Addr} {cs : List (Str × Addr)} {m cm : Str → Option Value} {led : List (Addr × Obj)} {ev : Env}
theorem al_frz {h' : Heap} {oL : Obj} {T : Addr} {its : Array Value} (S : Ls h₀ L cs hf s.heap m cm led) (hL : s.heap.get? L = some oL) (ret : Ret (gone s.heap [L]) [(L, oL)] h') (tup : h'.IsTuple T its) (nw : (gone s.heap [L]).get? T = none) :
    Ls h₀ L cs (frz h' L cs led) h' m cm led ∧ hf.StaysIn (frz h' L cs led) ∧ (frz h' L cs led).IsTuple T its := by
  have S' := S.back hL ret
  refine ⟨S'.frz, S'.frzS, ?_⟩
  obtain ⟨o, ho, hc, n, hd⟩ := tup
  have hT : s.heap.get? T = none := by
    cases e : s.heap.get? T with
    | none => rfl
    | some o' =>
      exfalso
      by_cases q : T = L
      · obtain ⟨oL', es, ep, hoL, hdL, _⟩ := S'.F.ns
        rw [← q, ho] at hoL
        obtain rfl := Option.some.inj hoL
        rw [hd] at hdL; cases hdL
      · rw [gone_get (by simpa using q), e] at nw
        cases nw
  exact ⟨o, S.frz_new ho hT, hc, n, hd⟩
theorem alias_call (G : Gr w mg mb h₀) (hk : ev.scope.kind = .function) (hfr : ev.frame = some L) (S : Ls h₀ L cs hf s.heap m cm led) {d : Nat × Nat} {rel ver : Str} {t1 t2 t3 : Tok} (hd1 : 1 ≤ d.1) (hd2 : d.1 ≤ 999) (hd3 : d.2 < 7) (ht : IsT rel d.1 d.2) :
    wpC (model prog w) (callerA.deeper ev) (call (.ref 51) [.str "SunOS" t1, .str rel t2, .str ver t3] []) (AlR h₀ L cs hf m cm led s (AliasOk d rel) ver) no s := by
  obtain ⟨oL, R, hL⟩ := S.out hk hfr []
  have st : h₀.StaysIn (gone s.heap [L]) := fun b o e => S.base (ex := []) (fun _ q => nomatch q) b o (S.O b o e)
  have htx : rel.cps.toList = txt d := ht
  by_cases h5 : txt d < [53]
  · refine al_low R (G.keeps st) (al_room _ (by decide)) (al_units _ (by decide)) rfl (by rw [htx]; exact h5) fun u h' tk' ret tup nw => ?_
    obtain ⟨a1, a2, a3⟩ := al_frz S hL ret tup nw
    exact ⟨u, _, _, _, _, _, h', tk', rfl, rfl, a1, a2, a3, .inl ⟨h5, rfl, rfl⟩⟩
  · have hs : Sol d.1 := Classical.byContradiction fun q => h5 ((txt_lt5 hd1 hd2).mpr q)
    have hn3 : 3 ≤ d.1 := by unfold Sol at hs; omega
    by_cases hk5 : d.2 < 5
    · refine al_T R (G.keeps st) (al_room _ (by decide)) (al_units _ (by decide)) rfl (by rw [htx]; exact h5) ht (by omega) hn3 hk5 fun u h' tk' rn t1' t2' ret hrn tup nw => ?_
      obtain ⟨a1, a2, a3⟩ := al_frz S hL ret tup nw
      exact ⟨u, _, _, _, _, _, h', tk', rfl, rfl, a1, a2, a3, .inr ⟨h5, rfl, .inl ⟨hk5, hrn⟩⟩⟩
    · refine al_O R (G.keeps st) (al_room _ (by decide)) (al_units _ (by decide)) rfl (by rw [htx]; exact h5) ht (by omega) (by omega) fun u h' tk' t1' ret tup nw => ?_
      obtain ⟨a1, a2, a3⟩ := al_frz S hL ret tup nw
      exact ⟨u, _, _, _, _, _, h', tk', rfl, rfl, a1, a2, a3, .inr ⟨h5, rfl, .inr ⟨by omega, rfl⟩⟩⟩
theorem alias_sol (G : Gr w mg mb h₀) (hk : ev.scope.kind = .function) (hfr : ev.frame = some L) (S : Ls h₀ L cs hf s.heap m cm led) {rel ver : Str} {t1 t2 t3 : Tok} :
    wpC (model prog w) (callerA.deeper ev) (call (.ref 51) [.str "Solaris" t1, .str rel t2, .str ver t3] []) (AlR h₀ L cs hf m cm led s (fun sys rn => sys = "Solaris" ∧ rn = rel) ver) no s := by
  obtain ⟨oL, R, hL⟩ := S.out hk hfr []
  have st : h₀.StaysIn (gone s.heap [L]) := fun b o e => S.base (ex := []) (fun _ q => nomatch q) b o (S.O b o e)
  refine al_sol R (G.keeps st) (al_room _ (by decide)) (al_units _ (by decide)) rfl fun u h' tk' ret tup nw => ?_
  obtain ⟨a1, a2, a3⟩ := al_frz S hL ret tup nw
  exact ⟨u, _, _, _, _, _, h', tk', rfl, rfl, a1, a2, a3, rfl, rfl⟩
end
theorem ne_tup3 {A : Around} {s : Shared} {l b : Addr} {x y z : Str} {t1 t2 t3 u1 u2 u3 : Tok} (hl : s.heap.IsTuple l #[.str x t1, .str y t2, .str z t3]) (hb : s.heap.IsTuple b #[.str x u1, .str y u2, .str z u3]) (hu : A.units < cLine) : RcNeAt A s (.ref l) (.ref b) false := by
  have eq : ∀ (x : Str) (t u : Tok), EqAt A.in1 s (.str x t) (.str x u) true := fun x t u => by
    have := EqAt.str_str (A := A.in1) (s := s) x t x u
    rwa [beq_self_eq_true] at this
  have r := RcNeAt.tuples (e := fun _ => true) hl hb hu fun j q1 q2 => by
    have hj : j < 3 := by simpa using q1
    match j, hj with
    | 0, _ => exact eq x t1 u1
    | 1, _ => exact eq y t2 u2
    | 2, _ => exact eq z t3 u3
  exact r
end Lw9

section Lw10
open TI LCg PySem.SeqAt
theorem sp_nil {M : Model} {A : Around} {E : Value → Shared → Prop} {s : Shared} {env : Env} {pos : Pos} {Q : List Value → Shared → Prop} (h : Q [] s) : wpAny M A (spliced (backTo pos (starEach [] env))) Q E s := spliced_nil h
theorem sp_cons {M : Model} {A : Around} {E : Value → Shared → Prop} {s : Shared} {env : Env} {e : PySem.Expr} {rest : List PySem.Expr} {pos : Pos} {Q : List Value → Shared → Prop}
    (h : wpAny M A (eval e env) (fun v s₁ => wpAny M A (spliced (backTo pos (starEach rest env))) (fun vs s₂ => Q (v :: vs) s₂) E s₁) E s)
    (he : starEach (e :: rest) env = (false, eval e env) :: starEach rest env := by rfl) : wpAny M A (spliced (backTo pos (starEach (e :: rest) env))) Q E s := by
  rw [he]
  exact spliced_cons h
noncomputable def J10 (m : Str → Option Value) (cm : Str → Option Value) (_ : Nat) (_ : Heap) (m' cm' : Str → Option Value) (led' : List (Addr × Obj)) : Prop := led' = [] ∧ (∀ y : Str, y ≠ "told" → m' y = m y) ∧ ∀ y : Str, y ≠ "k" → cm' y = cm y
noncomputable def R10 (h₀ : Heap) (L : Addr) (hf : Heap) (m cm : Str → Option Value) (s : Shared) (s' : Shared) : Prop :=
  ∃ h tk hf' m' cm', s' = { s with heap := h, toks := tk } ∧ Ls h₀ L (lawCs L) hf' h m' cm' [] ∧ hf.StaysIn hf' ∧ (∀ y : Str, y ≠ "told" → m' y = m y) ∧ ∀ y : Str, y ≠ "k" → cm' y = cm y
noncomputable def B10 (h₀ : Heap) (L : Addr) (cs : List (Str × Addr)) (hf : Heap) (m cm : Str → Option Value) (led : List (Addr × Obj)) (s : Shared) (d : Nat × Nat) (rel : Str) (s' : Shared) : Prop :=
  ∃ T sys rn t1 t2 t3 h tk hf', s' = { s with heap := h, toks := tk } ∧ Ls h₀ L cs hf' h (fun y => if y = "told" then some (.ref T) else m y) cm led ∧ hf.StaysIn hf' ∧ hf'.IsTuple T #[.str sys t1, .str rn t2, .str "5.10" t3] ∧ AliasOk d rel sys rn
theorem law_10 {prog : Program} {w : World} {s : Shared} {mg mb : Str → Option Value} {h₀ hf : Heap} {L fa a aN : Addr} {cd : Value} {m cm : Str → Option Value} {D nD : List (Nat × Nat)} {nv : List Value} {f : Str → Option Value} {c : Nat} {uc : Tok}
    (G : Gr w mg mb h₀) (S : Ls h₀ L (lawCs L) hf s.heap m cm []) (hD : Dok D) (mn : m "named" = some (.ref a)) (mc : m "cut" = some (.int (c : Int) uc)) (cn : cm "names" = some (.ref aN)) (hn : hf.IsList a (List.toArray nv)) (hN : All2 TxtV nv nD) (hp : nD.Perm D)
    (hc : ∀ (i : Nat) (d : Nat × Nat), nD[i]? = some d → (txt d < [53] ↔ i < c)) (hm : hf.MapOf (PySem.strKind prog w) aN f) (hf' : DictOk f D NameV) :
    wpC (model prog w) (AL L fa cd) (exec (stOf 13 9) (lawEnv L fa cd)) (NextR (R10 h₀ L hf m cm s)) no s := by
  show wpC _ (Around.deeper _ (envOfC _ (Scope.mk _ _ _ _ _) _ _ _)) (exec (Stmt.For (PySem.Expr.Name _ _) (PySem.Expr.Call (PySem.Expr.Name _ _) [PySem.Expr.Call (PySem.Expr.Name _ _) [PySem.Expr.Name _ _] _ _] _ _) [Stmt.Assign _ _ _, Stmt.If _ _ _ _, Stmt.If _ _ _ _] [] _) (envOfC _ (Scope.mk _ _ _ _ _) _ _ _)) _ _ _
  have hlen := hN.len
  have hpl := hp.length_eq
  have h10 := hD.2.1
  obtain ⟨oc, od, fd, osl, h51⟩ := fn_51 w
  refine FL_range (m := m) (cm := cm) (led := []) (n := nv.length) rfl (J10 m cm) (by omega) ⟨rfl, fun _ _ => rfl, fun _ _ => rfl⟩ (tgt_cell (c := L + 1 + 1 + 1 + 1 + 1) rfl rfl rfl) (ev_range_len G S (fun Q hq => ldLoc S.F mn hq) hn (by omega) rfl rfl rfl rfl rfl) ?_ ?_
  · rintro i t hf₁ h tk I oI m₁ cm₁ led₁ hi hff ⟨rfl, hm₁, hcm₁⟩ S₁
    obtain ⟨d, hd, rel, ur, hv, ht⟩ := hN.get i hi
    have hvi : nv[i]? = some (.str rel ur) := by rw [List.getElem?_eq_getElem hi, hv]
    have hdm : d ∈ D := hp.mem_iff.mp (List.mem_of_getElem? hd)
    obtain ⟨d1, d2, d3⟩ := hD.2.2 d hdm
    have mn₁ : m₁ "named" = some (.ref a) := (hm₁ _ (by decide)).trans mn
    have mc₁ : m₁ "cut" = some (.int (c : Int) uc) := (hm₁ _ (by decide)).trans mc
    have cn₁ : cm₁ "names" = some (.ref aN) := (hcm₁ _ (by decide)).trans cn
    have hfh : ∀ {g : Heap}, hf₁.StaysIn g → hf.StaysIn g := fun {g} k b o e => k b o (hff b o e)
    refine C_next (B10 h₀ L (lawCs L) hf₁ m₁ (fun y => if y = "k" then some (.int (i : Int) t) else cm₁ y) [(I, oI)] s d rel) ?_ ?_
    · show wpC _ _ (exec (Stmt.Assign [PySem.Expr.Name _ _] (PySem.Expr.Call (PySem.Expr.Name _ _) [PySem.Expr.Constant (PySem.Const.str _) _ _, PySem.Expr.Subscript (PySem.Expr.Name _ _) (PySem.Expr.Name _ _) _, PySem.Expr.Constant (PySem.Const.str _) _ _] _ _) _) _) _ _ _
      refine C_Assign_Name (C_Call_fn (f := 51) (o := ⟨oc, od, .func fd, osl⟩) rfl (nmG G S₁.F.keep (mg_51 G) ⟨rfl, ?_⟩ rfl rfl rfl (by decide))) (hs := rfl)
      refine C_args_cons (wpC_of (wpAny_Constant_str ?_))
      refine C_args_cons (wpC_of (A_Subscript (ldLoc S₁.F mn₁ (ldC S₁.C (c := L + 1 + 1 + 1 + 1 + 1) rfl (if_pos rfl) ?_))))
      refine item_list (isList_keeps hn (hfh S₁.K)) (by omega) (by omega) (by rw [Int.toNat_natCast]; exact hvi) ?_
      refine C_args_cons (wpC_of (wpAny_Constant_str ?_))
      refine C_args_nil (C_kws_nil ⟨S₁.F.keep _ _ (G.X _ _ h51), ?_⟩)
      refine wpC_mono (alias_call (s := { s with heap := h, toks := _ }) G rfl rfl S₁ d1 d2 d3 ht) (fun v s' q => ?_) fun _ _ q => q
      obtain ⟨T, sys, rn, t1, t2, t3, h', tk', rfl, rfl, S₂, st, tup, ok⟩ := q
      refine Ls.stL S₂ rfl rfl fun h'' S₃ => ?_
      exact ⟨rfl, T, sys, rn, t1, t2, t3, h'', _, _, rfl, S₃, st, tup, ok⟩
    rintro s' ⟨T, sys, rn, t1, t2, t3, h₂, tk₂, hf₂, rfl, S₂, hf12, tup, ok⟩
    have hf02 : ∀ {g : Heap}, hf₂.StaysIn g → hf.StaysIn g := fun {g} k b o e => k b o (hf12 b o (hff b o e))
    refine C_next (fun s' => ∃ h tk, s' = { s with heap := h, toks := tk } ∧ Ls h₀ L (lawCs L) hf₂ h (fun y => if y = "told" then some (.ref T) else m₁ y) (fun y => if y = "k" then some (.int (i : Int) t) else cm₁ y) [(I, oI)]) ?_ ?_
    · show wpC _ _ (exec (Stmt.If (PySem.Expr.Compare (PySem.Expr.Name _ _) _ [PySem.Expr.IfExp (PySem.Expr.Compare (PySem.Expr.Name _ _) _ [PySem.Expr.Name _ _] _) (PySem.Expr.Tuple [PySem.Expr.Constant (PySem.Const.str _) _ _, PySem.Expr.Subscript (PySem.Expr.Name _ _) (PySem.Expr.Name _ _) _, PySem.Expr.Constant (PySem.Const.str _) _ _] _ _) (PySem.Expr.Tuple [PySem.Expr.Constant (PySem.Const.str _) _ _, PySem.Expr.Subscript (PySem.Expr.Name _ _) (PySem.Expr.Subscript (PySem.Expr.Name _ _) (PySem.Expr.Name _ _) _) _, PySem.Expr.Constant (PySem.Const.str _) _ _] _ _) _] _) _ [] _) _) _ _ _
      refine if_ne (wpC_of (ldLoc S₂.F (if_pos rfl) (wpC_of (wpAny_IfExp (wpAny_isTrue_Compare1 ?_))))) rfl
      refine ldC S₂.C (c := L + 1 + 1 + 1 + 1 + 1) rfl (if_pos rfl) (ldLoc S₂.F mc₁ (lt_int (wpAny_truthy_bool ?_)))
      have hki := hc i d hd
      by_cases h5 : txt d < [53]
      · rw [decide_eq_true (show (i : Int) < (c : Int) by have := hki.mp h5; omega), if_pos rfl]
        refine wpAny_Tuple_spliced ?_
        refine sp_cons (wpAny_Constant_str ?_)
        refine sp_cons (A_Subscript (ldLoc S₂.F mn₁ (ldC S₂.C (c := L + 1 + 1 + 1 + 1 + 1) rfl (if_pos rfl) ?_)))
        refine item_list (isList_keeps hn (hf02 S₂.K)) (by omega) (by omega) (by rw [Int.toNat_natCast]; exact hvi) ?_
        refine sp_cons (wpAny_Constant_str ?_)
        refine sp_nil ⟨by rw [sizeLine_eq]; simp, ?_⟩
        rcases ok with ⟨_, rfl, rfl⟩ | ⟨q, _⟩
        · exact ⟨ne_tup3 (isTuple_keeps (isTuple_keeps tup S₂.K) (push_stays _ _)) ⟨_, Heap.get?_push_size _ rfl, rfl, _, rfl⟩ (al_u0 _), rfl, _, _, rfl, S₂.keeps (push_stays _ _)⟩
        · exact absurd h5 q
      · rw [decide_eq_false (show ¬ (i : Int) < (c : Int) from fun q => h5 (hki.mpr (by omega))), if_neg Bool.false_ne_true]
        obtain ⟨nmv, hnm, nm, unm, rfl, hnm1, hnm2⟩ := hf' d hdm rel ht
        have hso : Sol d.1 := Classical.byContradiction fun q => h5 ((txt_lt5 d1 d2).mpr q)
        have hn3 : 3 ≤ d.1 := by unfold Sol at hso; omega
        refine wpAny_Tuple_spliced ?_
        refine sp_cons (wpAny_Constant_str ?_)
        refine sp_cons (A_Subscript (ldC S₂.C (c := L + 1 + 1 + 1) rfl cn₁ (A_Subscript (ldLoc S₂.F mn₁ (ldC S₂.C (c := L + 1 + 1 + 1 + 1 + 1) rfl (if_pos rfl) ?_)))))
        refine item_list (isList_keeps hn (hf02 S₂.K)) (by omega) (by omega) (by rw [Int.toNat_natCast]; exact hvi) ?_
        refine item_dict (mapOf_keeps hm (hf02 S₂.K)) hnm ?_
        refine sp_cons (wpAny_Constant_str ?_)
        refine sp_nil ⟨by rw [sizeLine_eq]; simp, ?_⟩
        rcases ok with ⟨q, _⟩ | ⟨_, rfl, hrn⟩
        · exact absurd q h5
        · have hre : rn = nm := by
            rcases hrn with ⟨hk5, q⟩ | ⟨hk5, rfl⟩
            · exact isT_eq q (hnm1 hk5 hn3)
            · exact isT_eq ht (hnm2 hk5)
          subst hre
          exact ⟨ne_tup3 (isTuple_keeps (isTuple_keeps tup S₂.K) (push_stays _ _)) ⟨_, Heap.get?_push_size _ rfl, rfl, _, rfl⟩ (al_u0 _), rfl, _, _, rfl, S₂.keeps (push_stays _ _)⟩
    rintro s' ⟨h₃, tk₃, rfl, S₃⟩
    refine C_next (fun s' => ∃ h tk hf', s' = { s with heap := h, toks := tk } ∧ Ls h₀ L (lawCs L) hf' h (fun y => if y = "told" then some (.ref T) else m₁ y) (fun y => if y = "k" then some (.int (i : Int) t) else cm₁ y) [(I, oI)] ∧ hf₂.StaysIn hf') ?_ ?_
    · show wpC _ _ (exec (Stmt.If (PySem.Expr.Compare (PySem.Expr.Call (PySem.Expr.Name _ _) [PySem.Expr.Subscript (PySem.Expr.Name _ _) (PySem.Expr.Constant (PySem.Const.int _) _ _) _, PySem.Expr.Subscript (PySem.Expr.Name _ _) (PySem.Expr.Constant (PySem.Const.int _) _ _) _, PySem.Expr.Subscript (PySem.Expr.Name _ _) (PySem.Expr.Constant (PySem.Const.int _) _ _) _] _ _) _ [PySem.Expr.Name _ _] _) _ [] _) _) _ _ _
      have tup₃ := isTuple_keeps tup S₃.K
      refine if_ne (C_Call_fn (f := 51) (o := ⟨oc, od, .func fd, osl⟩) rfl (nmG G S₃.F.keep (mg_51 G) ⟨rfl, ?_⟩ rfl rfl rfl (by decide))) rfl
      refine C_args_cons (wpC_of (A_Subscript (ldLoc S₃.F (if_pos rfl) (wpAny_Constant_int (item_tupleT (l := [.str sys t1, .str rn t2, .str "5.10" t3]) (j := 0) tup₃ (by decide) (by decide) rfl rfl ?_)))))
      refine C_args_cons (wpC_of (A_Subscript (ldLoc S₃.F (if_pos rfl) (wpAny_Constant_int (item_tupleT (l := [.str sys t1, .str rn t2, .str "5.10" t3]) (j := 1) tup₃ (by decide) (by decide) rfl rfl ?_)))))
      refine C_args_cons (wpC_of (A_Subscript (ldLoc S₃.F (if_pos rfl) (wpAny_Constant_int (item_tupleT (l := [.str sys t1, .str rn t2, .str "5.10" t3]) (j := 2) tup₃ (by decide) (by decide) rfl rfl ?_)))))
      refine C_args_nil (C_kws_nil ⟨S₃.F.keep _ _ (G.X _ _ h51), ?_⟩)
      refine wpC_mono (Q := AlR h₀ L (lawCs L) hf₂ (fun y => if y = "told" then some (.ref T) else m₁ y) (fun y => if y = "k" then some (.int (i : Int) t) else cm₁ y) [(I, oI)] { s with heap := h₃, toks := tk₃ + 1 + 1 + 1 } (fun sys' rn' => sys' = sys ∧ rn' = rn) "5.10") (E := no) ?_ (fun v s' q => ?_) (fun _ _ q => q)
      · rcases ok with ⟨h5, rfl, rfl⟩ | ⟨h5, rfl, _⟩
        · refine wpC_mono (alias_call (s := { s with heap := h₃, toks := tk₃ + 1 + 1 + 1 }) G rfl rfl S₃ d1 d2 d3 ht) (fun v s' q => ?_) fun _ _ q => q
          obtain ⟨T', sys', rn', u1, u2, u3, h₄, tk₄, e1, e2, S₄, st₄, tup₄, ok'⟩ := q
          refine ⟨T', sys', rn', u1, u2, u3, h₄, tk₄, e1, e2, S₄, st₄, tup₄, ?_⟩
          rcases ok' with ⟨_, a, b⟩ | ⟨q, _⟩
          · exact ⟨a, b⟩
          · exact absurd h5 q
        · exact alias_sol (s := { s with heap := h₃, toks := tk₃ + 1 + 1 + 1 }) G rfl rfl S₃
      · obtain ⟨T', sys', rn', u1, u2, u3, h₄, tk₄, rfl, rfl, S₄, st₄, tup₄, rfl, rfl⟩ := q
        exact wpC_of (ldLoc S₄.F (if_pos rfl) ⟨ne_tup3 (isTuple_keeps tup₄ S₄.K) (isTuple_keeps tup fun b o e => S₄.K _ _ (st₄ _ _ e)) (al_u0 _), rfl, h₄, tk₄, _, rfl, S₄, st₄⟩)
    rintro s' ⟨h₄, tk₄, hf₄, rfl, S₄, hf24⟩
    refine C_execs_nil ⟨rfl, h₄, tk₄, hf₄, _, _, [], rfl, S₄, fun b o e => hf24 _ _ (hf12 _ _ e), rfl, fun y hy => ?_, fun y hy => ?_⟩
    · exact (if_neg hy).trans (hm₁ y hy)
    · exact (if_neg hy).trans (hcm₁ y hy)
  · rintro hf₁ h tk m₁ cm₁ led₁ hff ⟨rfl, hm₁, hcm₁⟩ S₁
    exact ⟨rfl, h, tk, hf₁, m₁, cm₁, rfl, S₁, hff, hm₁, hcm₁⟩
end Lw10

section Ext
open TI LCg
theorem shiftS {prog : Program} {w : World} {A : Around} {I : Addr} {fp wr : List Addr} {G : Array GenState → Array GenState → Prop} {n : Nat} {P : Nat → Value → Prop} {St : Nat → Shared → Prop} (W : WalksS prog w A I fp wr G n P St) (k : Nat) (P' : Nat → Value → Prop) (hP' : ∀ j v, k ≤ j → P (j - k) v → P' j v) :
    WalksS prog w A I fp wr G (k + n) P' (fun j s => k ≤ j ∧ St (j - k) s) where
  sub := W.sub
  grefl := W.grefl
  gtrans := W.gtrans
  frame := fun j s h' tk st ht hk => ⟨st.1, W.frame _ s h' tk st.2 ht hk⟩
  item := fun j s Q E hj st hQ => W.item (j - k) s Q E (by have := st.1; omega) st.2 fun v s' hP st' hm => hQ v s' (hP' j v st.1 hP) ⟨by have := st.1; omega, by rw [show j + 1 - k = j - k + 1 by have := st.1; omega]; exact st'⟩ hm
  done := fun s Q E st hQ => W.done s Q E (by have := st.2; rwa [Nat.add_sub_cancel_left] at this) hQ
  self := fun j s Q E st hQ => W.self _ s Q E st.2 hQ
/-- what stands in a list that a range was put behind -/
noncomputable def ExtP (acc0 : Array Value) (a : Int) (j : Nat) (v : Value) : Prop := (j < acc0.size → acc0[j]? = some v) ∧ (acc0.size ≤ j → ∃ t, v = .int (a + (((j - acc0.size : Nat) : Nat) : Int) * 1) t)
theorem ext_meets (S r : Addr) (a b : Int) (t u v : Tok) (n : Nat) (acc0 : Array Value) (c₀ : Nat) : Meets (Builtin.«list.extend» ⟨[.ref S, .ref r], []⟩) (fun A R s => A.handled = none ∧ IsRange s.heap r a b 1 t u v ∧ Builtin.Range.small a b 1 = true ∧ Builtin.Range.rangeSize a b 1 = ((n : Nat) : Int) ∧ n ≤ 1000 ∧ acc0.size ≤ 1000 ∧
    s.heap.get? S = some { cls := .type "list", data := .seq acc0 c₀ } ∧
    (∀ h' tk acc' c', (∀ b o, b ≠ S → s.heap.get? b = some o → h'.get? b = some o) → h'.get? S = some { cls := .type "list", dict := none, data := .seq acc' c', slots := #[] } → ItemsOf (ExtP acc0 a) acc' (acc0.size + n) → R (.ok (.ret .none)) { s with heap := h', toks := tk })) := by
  rintro prog w A R s ⟨hh, hr, hsmall, hn, hlen, hz, hS, hR⟩
  show wpAny (model prog w) A.in1 (Builtin.List.listExtendWith (.ref S) (.ref r) .none) _ _ s
  have hSr : S ≠ r := fun e => by rw [e, hr] at hS; simp at hS
  have hSlt : S < s.heap.objs.size := Heap.lt_size hS
  have hSI : S ≠ s.heap.objs.size := Nat.ne_of_lt hSlt
  have hSf : S ∉ [s.heap.objs.size] := fun hm => hSI (List.mem_singleton.mp hm)
  have W := shiftS (Walks.range (prog := prog) (w := w) (A := A.in1) hh s.heap.objs.size a 1 n).toS acc0.size (ExtP acc0 a) fun j v hj hP => ⟨fun q => absurd q (by omega), fun _ => hP⟩
  have key : ∀ (h : Heap) (c₁ tk : Nat), IsRangeIter h s.heap.objs.size (a + ((0 : Nat) : Int) * 1) ((n : Int) - ((0 : Nat) : Int)) 1 → (∀ b o, b ≠ S → s.heap.get? b = some o → h.get? b = some o) →
      h.get? S = some { cls := .type "list", data := .seq acc0 c₁ } → codeAny (model prog w) A (.builtin "list.extend.loop" ⟨[.ref S, .ref s.heap.objs.size, .none], []⟩) R { s with heap := h, toks := tk } := by
    intro h c₁ tk hit hk hS₁
    refine codeAny_extend_loopS W (by rw [sizeLine_eq]; omega) S hSf .none n acc0.size _ acc0 c₁ (by omega) (Nat.le_add_right _ _) ⟨Nat.le_refl _, by rw [Nat.sub_self]; exact hit⟩ hS₁ ⟨rfl, fun j v hj => ⟨fun _ => hj, fun q => ?_⟩⟩ fun s' acc' c' hm hS' hacc => ?_
    · have := (Array.getElem?_eq_some_iff.mp hj).1
      omega
    · rw [Moved.eq_with hm]
      refine hR s'.heap s'.toks acc' c' (fun b o hb e => hm.heap b o (fun hmem => ?_) (hk b o hb e)) hS' hacc
      rcases List.mem_cons.mp hmem with e' | hmem
      · exact hb e'
      · exact absurd (Heap.lt_size e) (by rw [List.mem_singleton.mp hmem]; exact Nat.lt_irrefl _)
  unfold Builtin.List.listExtendWith
  refine wpAny_bind (wpAny_typeOf (T := "range") ⟨_, hr, rfl⟩ ?_)
  have h1 : Builtin.List.listSameRef (.ref S) (.ref r) = false := by simp [Builtin.List.listSameRef, hSr]
  have h2 : (Value.type "range" == Value.type "list") = false := by decide
  have h3 : (Value.type "range" == Value.type "tuple") = false := by decide
  simp only [h1, h2, h3, Bool.or_false, Bool.false_eq_true, if_false]
  refine wpAny_bind (wpAny_pyIter_range hr hsmall ?_)
  refine wpAny_bind (wpAny_holding (wpAny_hint_range (n := n) (Heap.get?_push_of_some _ hr) hn (by omega) ?_))
  have hit₁ : IsRangeIter (s.heap.push { cls := .type "range_iterator", data := .fields #[rawInt a, rawInt (Builtin.Range.rangeSize a b 1), rawInt 1] }) s.heap.objs.size (a + ((0 : Nat) : Int) * 1) ((n : Int) - ((0 : Nat) : Int)) 1 := by
    show IsRangeIter _ _ _ _ _; rw [hn]; simpa using Heap.get?_push_size _ rfl
  have hS₁ := Heap.get?_push_of_some { cls := .type "range_iterator", data := .fields #[rawInt a, rawInt (Builtin.Range.rangeSize a b 1), rawInt 1] } hS
  have hz0 : acc0.size ≤ sizeLine := by rw [sizeLine_eq]; omega
  have hz1 : (acc0.push Value.none).size ≤ sizeLine + 1 := by rw [Array.size_push, sizeLine_eq]; omega
  have hz2 : (acc0.push Value.none).size ≤ sizeLine := by rw [Array.size_push, sizeLine_eq]; omega
  have hz3 : ((acc0.push Value.none).pop).size ≤ sizeLine + 1 := by rw [Array.size_pop, Array.size_push, sizeLine_eq]; omega
  refine wpAny_ite_split (fun _ => ?_) (fun _ => wpAny_pure ⟨plainId_quiet F.plain_extend_loop _, key _ c₀ _ hit₁ (fun b o _ e => Heap.get?_push_of_some _ e) hS₁⟩)
  refine wpAny_bind (wpAny_rule ?_)
  refine wpAny_bind ?_
  show wpAny _ _ (updateSeq S (·.push .none) >>= fun _ => updateSeq S (·.pop)) _ _ _
  refine wpAny_bind (wpAny_updateSeq hS₁ rfl ?_ hz0 hz1)
  have hS₂ := Heap.get?_update_self (Obj.mapSeq (·.push Value.none)) hS₁ rfl
  refine wpAny_updateSeq hS₂ rfl ?_ hz2 hz3
  have hS₃ := Heap.get?_update_self (Obj.mapSeq (·.pop)) hS₂ rfl
  obtain ⟨c3, hc3⟩ : ∃ c3, Obj.mapSeq (·.pop) (Obj.mapSeq (·.push Value.none) { cls := .type "list", data := .seq acc0 c₀ }) = { cls := .type "list", data := .seq acc0 c3 } := by
    simp [Obj.mapSeq]
  refine wpAny_pure ⟨plainId_quiet F.plain_extend_loop _, key _ c3 _ ?_ (fun b o hb e => ?_) (hS₃.trans (congrArg some hc3))⟩
  · exact (Heap.get?_update_other _ _ hSI).trans ((Heap.get?_update_other _ _ hSI).trans hit₁)
  · exact (Heap.get?_update_other _ _ (Ne.symm hb)).trans ((Heap.get?_update_other _ _ (Ne.symm hb)).trans (Heap.get?_push_of_some _ e))
end Ext

section Lw11
open TI LCg PySem.SeqAt
/-- what stands behind a stretch in which all was frozen -/
theorem Ls.thaw {h₀ hf hfT h h' : Heap} {L : Addr} {cs : List (Str × Addr)} {m m' cm cm' : Str → Option Value} {led : List (Addr × Obj)} (S : Ls h₀ L cs hf h m cm led) (S' : Ls h₀ L cs hfT h' m' cm' []) (st : (Mine.frz h L cs []).StaysIn hfT) : Ls h₀ L cs hf h' m' cm' led := by
  have S0 := S.sub (List.nil_sublist led)
  refine ⟨S'.F, S'.C, S.U, fun b o e => S'.K _ _ (st _ _ (S0.frzS _ _ e)), fun p hp => ?_, S.D, S.O, S.aL, S.aC⟩
  obtain ⟨n1, n2, n3, n4⟩ := S.N p hp
  exact ⟨S'.K _ _ (st _ _ (frz_get n1 n2 n4 (by simp))), n2, n3, n4⟩
section
variable {prog : Program} {w : World} {s : Shared} {mg mb : Str → Option Value} {h₀ hf : Heap} {L : Addr} {cs : List (Str × Addr)} {m cm : Str → Option Value} {led : List (Addr × Obj)} {ev : Env}
theorem cv_law (G : Gr w mg mb h₀) (hk : ev.scope.kind = .function) (hfr : ev.frame = some L) (S : Ls h₀ L cs hf s.heap m cm []) {n k : Nat} {t : Str} {tx : Tok} (hn : n < 10000) (hk7 : k < 7) (ht : IsT t n k) :
    wpC (model prog w) (callerA.deeper ev) (call (.ref 44) [.str t tx] []) (fun v s' => ∃ u h tk, v = .ref u ∧ s' = { s with heap := h, toks := tk } ∧ Ls h₀ L cs (frz h L cs []) h m cm [] ∧ hf.StaysIn (frz h L cs []) ∧ Lv.zero.list.rd (frz h L cs []) (.ref u) (cvOf n k)) no s := by
  obtain ⟨oL, R, hL⟩ := S.out hk hfr []
  have st : h₀.StaysIn (gone s.heap [L]) := fun b o e => S.base (ex := []) (fun _ q => nomatch q) b o (S.O b o e)
  refine cv_T R (G.keeps st) (al_room _ (by decide)) (al_units _ (by decide)) rfl hn hk7 ht fun u h' tk' ret rd => ?_
  have S' := S.back hL ret
  refine ⟨u, h', tk', rfl, rfl, S'.frz, S'.frzS, ?_⟩
  obtain ⟨a, us, e, ⟨o, ho, hc, c, hd⟩, r⟩ := rd
  exact ⟨a, us, e, ⟨o, S'.frz_seq ho hd (by simp), hc, c, hd⟩, r⟩
theorem bl_law {l f : Addr} {vs : List Value} {xv : Value} {xs : List CvI} {c : Nat} {P : Str → List CvI → Prop} {oc : Value} {od : Option Addr} {fd : FuncData} {osl : Array (Option Value)}
    (KF : KeyFn prog w mg mb f P) (hf' : (hd.heap_39 w.params).lookup f = some ⟨oc, od, .func fd, osl⟩)
    (G : Gr w mg mb h₀) (hk : ev.scope.kind = .function) (hfr : ev.frame = some L) (S : Ls h₀ L cs hf s.heap m cm [])
    (hl : hf.IsList l vs.toArray) (hx : Lv.zero.list.rd hf xv xs) (hz : vs.length ≤ 1000) (hc : c ≤ vs.length)
    (hp : ∀ i, i < vs.length → ∃ t u d, vs[i]? = some (.str t u) ∧ P t d ∧ Lv.zero.list.ok d xs = true ∧ (Lv.zero.list.cmp .Lt d xs = true ↔ i < c)) :
    wpC (model prog w) (callerA.deeper ev) (call (.ref 78) [.ref l, xv] [("key", .ref f)]) (fun v s' => ∃ u h tk, v = .int (c : Int) u ∧ s' = { s with heap := h, toks := tk } ∧ Ls h₀ L cs hf h m cm []) no s := by
  obtain ⟨oL, R, hL⟩ := S.out hk hfr []
  have b := S.base (ex := []) (fun _ q => nomatch q)
  refine bl_key KF hf' R (G.keeps fun a o e => b a o (S.O a o e)) (al_room _ (by decide)) (al_units _ (by decide)) rfl (isList_keeps hl b) (LvOk.zero.list.keeps hx b) hz hc hp fun u h' tk' ret => ?_
  exact ⟨u, h', tk', rfl, rfl, S.back hL ret⟩
theorem br_law {l f : Addr} {vs : List Value} {xv : Value} {xs : List CvI} {c : Nat} {P : Str → List CvI → Prop} {oc : Value} {od : Option Addr} {fd : FuncData} {osl : Array (Option Value)}
    (KF : KeyFn prog w mg mb f P) (hf' : (hd.heap_39 w.params).lookup f = some ⟨oc, od, .func fd, osl⟩)
    (G : Gr w mg mb h₀) (hk : ev.scope.kind = .function) (hfr : ev.frame = some L) (S : Ls h₀ L cs hf s.heap m cm [])
    (hl : hf.IsList l vs.toArray) (hx : Lv.zero.list.rd hf xv xs) (hz : vs.length ≤ 1000) (hc : c ≤ vs.length)
    (hp : ∀ i, i < vs.length → ∃ t u d, vs[i]? = some (.str t u) ∧ P t d ∧ Lv.zero.list.ok xs d = true ∧ (Lv.zero.list.cmp .Lt xs d = true ↔ c ≤ i)) :
    wpC (model prog w) (callerA.deeper ev) (call (.ref 69) [.ref l, xv] [("key", .ref f)]) (fun v s' => ∃ u h tk, v = .int (c : Int) u ∧ s' = { s with heap := h, toks := tk } ∧ Ls h₀ L cs hf h m cm []) no s := by
  obtain ⟨oL, R, hL⟩ := S.out hk hfr []
  have b := S.base (ex := []) (fun _ q => nomatch q)
  refine br_key (tlo := 399) KF hf' R (G.keeps fun a o e => b a o (S.O a o e)) (al_room _ (by decide)) (al_units _ (by decide)) rfl (isList_keeps hl b) (LvOk.zero.list.keeps hx b) hz hc hp (.inl ⟨rfl, rfl⟩) fun u h' tk' ret => ?_
  exact ⟨u, h', tk', rfl, rfl, S.back hL ret⟩
end
theorem pow_T {x : Str} {b : Nat} (hb : x = "5" ∧ b = 5 ∨ x = "10" ∧ b = 10) {i : Nat} (hi : i < 3) : IsT (x ++ Txt.mul "0" (i : Int)) (b * 10 ^ i) 0 := by
  have d1 : dg 5 = [53] := dg_lt (by decide)
  have d2 : dg 10 = [49, 48] := by rw [dg_step (by decide), dg_lt (by decide)]; rfl
  have d3 : dg 50 = [53, 48] := by rw [dg_step (by decide), dg_lt (by decide)]; rfl
  have d4 : dg 100 = [49, 48, 48] := by rw [dg_step (by decide)]; exact congrArg (· ++ [48]) d2
  have d5 : dg 500 = [53, 48, 48] := by rw [dg_step (by decide)]; exact congrArg (· ++ [48]) d3
  have d6 : dg 1000 = [49, 48, 48, 48] := by rw [dg_step (by decide)]; exact congrArg (· ++ [48]) d4
  unfold IsT
  rcases hb with ⟨rfl, rfl⟩ | ⟨rfl, rfl⟩
  · match i, hi with
    | 0, _ => show _ = dg 5 ++ _; rw [d1]; rfl
    | 1, _ => show _ = dg 50 ++ _; rw [d3]; rfl
    | 2, _ => show _ = dg 500 ++ _; rw [d5]; rfl
  · match i, hi with
    | 0, _ => show _ = dg 10 ++ _; rw [d2]; rfl
    | 1, _ => show _ = dg 100 ++ _; rw [d4]; rfl
    | 2, _ => show _ = dg 1000 ++ _; rw [d6]; rfl
theorem mul_ok {i : Nat} (hi : i < 3) : MulOk "0" (i : Int) := by
  match i, hi with
  | 0, _ | 1, _ | 2, _ => unfold MulOk; decide
noncomputable def R11 (h₀ : Heap) (L : Addr) (hf : Heap) (m cm : Str → Option Value) (s : Shared) (s' : Shared) : Prop :=
  ∃ h tk a m', s' = { s with heap := h, toks := tk } ∧ Ls h₀ L (lawCs L) hf h m' cm [(a, W.listOf (List.toArray []) 0)] ∧ m' "spans" = some (.ref a)
theorem law_11 {prog : Program} {w : World} {s : Shared} {h₀ hf : Heap} {L fa : Addr} {cd : Value} {m cm : Str → Option Value}
    (S : Ls h₀ L (lawCs L) hf s.heap m cm []) :
    wpC (model prog w) (AL L fa cd) (exec (stOf 13 10) (lawEnv L fa cd)) (NextR (R11 h₀ L hf m cm s)) no s := by
  show wpC _ (Around.deeper _ (envOfC _ (Scope.mk _ _ _ _ _) _ _ _)) (exec (Stmt.Assign [PySem.Expr.Name _ _] (PySem.Expr.List [] _) _) (envOfC _ (Scope.mk _ _ _ _ _) _ _ _)) _ _ _
  refine C_Assign_Name (hs := rfl) (wpC_of (wpAny_List_spliced (spliced_nil ⟨Nat.zero_le _, ?_⟩)))
  have S1 := S.new (push_stays s.heap (W.listOf (List.toArray []) 0)) (push_fresh _) (Heap.get?_push_size _ rfl)
  refine Ls.stL (s := { s with heap := s.heap.push (W.listOf (List.toArray []) 0) }) S1 rfl rfl fun h' S' => ?_
  exact ⟨rfl, h', _, _, _, rfl, S', if_pos rfl⟩
end Lw11

section Lw12
open TI LCg PySem.SeqAt
local macro_rules | `(tactic| walk_at "eval Name") => `(tactic| (k_here; k_dflt (refine' ldLoc ?k1 ?k2 ?_; (case k1 => k_asm); (case k2 => first | exact rfl | assumption); k_whole)))
noncomputable def IntN (v : Value) (j : Nat) : Prop := ∃ t, v = .int (j : Int) t
noncomputable def InSp (rD : List (Nat × Nat)) (i j : Nat) : Prop := ∃ d, rD[j]? = some d ∧ ∃ i', i' < i ∧ 5 * 10 ^ i' ≤ d.1 ∧ d.1 < 10 * 10 ^ i'
noncomputable def CodeLe (x y : Nat × Nat) : Prop := code x ≤ code y
/-- the row's texts, in the order of their codes -/
structure RowOk (rD : List (Nat × Nat)) : Prop where
  dok : Dok rD
  inc : rD.Pairwise CodeLe
theorem RowOk.cut {rD : List (Nat × Nat)} (R : RowOk rD) (M : Nat) : ∃ c, c ≤ rD.length ∧ ∀ j d, rD[j]? = some d → (code d < 6 * M ↔ j < c) := by
  obtain ⟨c, c1, c2, _⟩ := cut_at (fun d => decide (¬ code d < 6 * M)) rD fun i j a b hij ha hb hp => by
    rw [decide_eq_true_eq] at hp ⊢
    rcases Nat.lt_or_ge i j with hlt | hge
    · have : code a ≤ code b := pairwise_at R.inc hlt ha hb
      omega
    · obtain rfl : i = j := by omega
      rw [ha] at hb
      obtain rfl := Option.some.inj hb
      exact hp
  refine ⟨c, c1, fun j d hd => ?_⟩
  have := c2 j d hd
  rw [decide_eq_true_eq] at this
  constructor
  · exact fun q => Nat.lt_of_not_le fun z => this.mpr z q
  · exact fun q => Decidable.byContradiction fun z => absurd (this.mp z) (by omega)
theorem code_six (d : Nat × Nat) (M : Nat) : code d < 6 * M ↔ d.1 < M := by
  have := tr_lt d.2
  unfold code
  omega
noncomputable def Rc (h₀ : Heap) (L : Addr) (hf : Heap) (m cm : Str → Option Value) (y : Str) (rD : List (Nat × Nat)) (M : Nat) (s : Shared) (s' : Shared) : Prop :=
  ∃ h tk hf' c u, s' = { s with heap := h, toks := tk } ∧ Ls h₀ L (lawCs L) hf' h (fun z => if z = y then some (.int ((c : Nat) : Int) u) else m z) cm [] ∧ hf.StaysIn hf' ∧ c ≤ rD.length ∧ ∀ j d, rD[j]? = some d → (d.1 < M ↔ j < c)
theorem at_cut {prog : Program} {w : World} {s : Shared} {mg mb : Str → Option Value} {h₀ hf : Heap} {L fa b : Addr} {cd : Value} {m cm : Str → Option Value} {rD : List (Nat × Nat)} {rv : List Value} {y x : Str} {B i : Nat} {ui : Tok} {p1 p2 p3 p4 p5 p6 p7 p8 p9 p10 p11 p12 p13 p14 : Pos} {k1 k2 : Nat}
    (G : Gr w mg mb h₀) (S : Ls h₀ L (lawCs L) hf s.heap m cm []) (R : RowOk rD) (hr : hf.IsList b (List.toArray rv)) (hR : All2 TxtV rv rD) (cr : cm "row" = some (.ref b)) (hi : i < 3) (mi : m "size" = some (.int (i : Int) ui)) (hx : x = "5" ∧ B = 5 ∨ x = "10" ∧ B = 10)
    (hy : (lawEnv L fa cd).kindOf y = some .local) (hs : swapsWith (.Call (.Name "bisect_left" p2) [.Name "row" p3, .Call (.Name "_comparable_version" p4) [.BinOp (.Constant (.str x) k1 p5) .Add (.BinOp (.Constant (.str "0") k2 p6) .Mult (.Name "size" p7) p8) p9] [] p10] [⟨some "key", .Name "_comparable_version" p11, p12⟩] p13) (some (.Name y p1)) p14.line (lawEnv L fa cd) = pure false) :
    wpC (model prog w) (AL L fa cd) (exec (.Assign [.Name y p1] (.Call (.Name "bisect_left" p2) [.Name "row" p3, .Call (.Name "_comparable_version" p4) [.BinOp (.Constant (.str x) k1 p5) .Add (.BinOp (.Constant (.str "0") k2 p6) .Mult (.Name "size" p7) p8) p9] [] p10] [⟨some "key", .Name "_comparable_version" p11, p12⟩] p13) p14) (lawEnv L fa cd)) (NextR (Rc h₀ L hf m cm y rD (B * 10 ^ i) s)) no s := by
  obtain ⟨oc, od, fd, osl, h78⟩ := fn_78 w
  obtain ⟨oc4, od4, fd4, osl4, h44⟩ := fn_44 w
  have hlen := hR.len
  have h10 := R.dok.2.1
  obtain ⟨c, c1, c2⟩ := R.cut (B * 10 ^ i)
  have hT := pow_T hx hi
  have hB : B * 10 ^ i < 10000 := by
    have : B ≤ 10 := by rcases hx with ⟨_, rfl⟩ | ⟨_, rfl⟩ <;> omega
    match i, hi with
    | 0, _ | 1, _ | 2, _ => omega
  refine C_Assign_Name (hs := hs) (C_Call_fn (f := 78) (o := ⟨oc, od, .func fd, osl⟩) rfl (nmG G S.F.keep (mg_78 G) ⟨rfl, ?_⟩ rfl rfl rfl (by decide)))
  refine C_args_cons (wpC_of (ldC S.C (c := L + 1 + 1 + 1 + 1) rfl cr ?_))
  refine C_args_cons (C_Call_fn (f := 44) (o := ⟨oc4, od4, .func fd4, osl4⟩) rfl (nmG G S.F.keep (mg_44 G) ⟨rfl, ?_⟩ rfl rfl rfl (by decide)))
  refine C_args_cons (wpC_of (wpAny_BinOp (wpAny_Constant_str (wpAny_BinOp (wpAny_Constant_str (ldLoc S.F mi (SB.mul (mul_ok hi) fun t' k => SB.add (fun t'' k' => ?_) ?_)))))))
  · refine C_args_nil (C_kws_nil ⟨S.F.keep _ _ (G.X _ _ h44), ?_⟩)
    refine wpC_mono (cv_law (s := { s with toks := k' }) G rfl rfl S hB (by decide) hT) (fun v s' q => ?_) fun _ _ q => q
    obtain ⟨u, h, tk, rfl, rfl, S', st, rd⟩ := q
    refine C_args_nil (C_kws_cons (wpC_of (nmG G S'.F.keep (mg_44 G) ?_ rfl rfl rfl (by decide))))
    refine C_kws_nil ⟨S'.F.keep _ _ (G.X _ _ h78), ?_⟩
    refine wpC_mono (bl_law (s := { s with heap := h, toks := tk }) (c := c) (key44 prog w mg mb) h44 G rfl rfl S' (isList_keeps hr st) rd (by omega) (by omega) fun j hj => ?_) (fun v s' q => ?_) fun _ _ q => q
    · obtain ⟨d, hd, t, u, hv, ht⟩ := hR.get j hj
      obtain ⟨d1, d2, d3⟩ := R.dok.2.2 d (List.mem_of_getElem? hd)
      refine ⟨t, u, cvOf d.1 d.2, by rw [List.getElem?_eq_getElem hj, hv], ⟨d.1, d.2, by omega, d3, ht, rfl⟩, cv_ok (d := d) (d' := (B * 10 ^ i, 0)) d3 (show 0 < 7 by decide), ?_⟩
      rw [cv_lt (d := d) (d' := (B * 10 ^ i, 0)) d3 (show 0 < 7 by decide), decide_eq_true_eq, ← c2 j d hd]
      show code d < B * 10 ^ i * 6 + 0 ↔ _
      omega
    · obtain ⟨u', h', tk', rfl, rfl, S''⟩ := q
      refine Ls.stL (s := { s with heap := h', toks := tk' }) S'' rfl hy fun h'' S3 => ?_
      exact ⟨rfl, h'', _, _, c, u', rfl, S3, st, c1, fun j d hd => (code_six d _).symm.trans (c2 j d hd)⟩
  · rcases hx with ⟨rfl, _⟩ | ⟨rfl, _⟩ <;> (match i, hi with | 0, _ | 1, _ | 2, _ => rw [sizeLine_eq]; decide)
noncomputable def J12 (rD : List (Nat × Nat)) (a : Addr) (cm : Str → Option Value) (i : Nat) (_ : Heap) (m' cm' : Str → Option Value) (led' : List (Addr × Obj)) : Prop :=
  cm' = cm ∧ m' "spans" = some (.ref a) ∧ ∃ vs ns n, led' = [(a, W.listOf (List.toArray vs) n)] ∧ All2 IntN vs ns ∧ ns.length ≤ 10 * i ∧ ns.Pairwise (· < ·) ∧ ∀ j, j ∈ ns ↔ InSp rD i j
noncomputable def R12 (h₀ : Heap) (L : Addr) (hf : Heap) (cm : Str → Option Value) (a : Addr) (rD : List (Nat × Nat)) (s : Shared) (s' : Shared) : Prop :=
  ∃ h tk hf' m' vs ns, s' = { s with heap := h, toks := tk } ∧ Ls h₀ L (lawCs L) hf' h m' cm [] ∧ hf.StaysIn hf' ∧ m' "spans" = some (.ref a) ∧ hf'.IsList a (List.toArray vs) ∧ All2 IntN vs ns ∧ ns.length ≤ 30 ∧ ns.Pairwise (· < ·) ∧ ∀ j, j ∈ ns ↔ InSp rD 3 j
theorem all2_of_get {α β : Type} {P : α → β → Prop} : ∀ {as : List α} {bs : List β}, as.length = bs.length → (∀ (i : Nat) a b, as[i]? = some a → bs[i]? = some b → P a b) → All2 P as bs
  | [], [], _, _ => .nil
  | [], _ :: _, h, _ => by cases h
  | _ :: _, [], h, _ => by cases h
  | a :: as, b :: bs, h, k => .cons (k 0 a b rfl rfl) (all2_of_get (Nat.succ.inj h) fun i x y hx hy => k (i + 1) x y (by simpa using hx) (by simpa using hy))
/-- the next stretch -/
theorem sp_next {rD : List (Nat × Nat)} {ns : List Nat} {i b e : Nat} (h1 : ns.Pairwise (· < ·)) (h2 : ∀ j, j ∈ ns ↔ InSp rD i j) (he : e ≤ rD.length) (hb : ∀ (j : Nat) d, rD[j]? = some d → (d.1 < 5 * 10 ^ i ↔ j < b)) (hE : ∀ (j : Nat) d, rD[j]? = some d → (d.1 < 10 * 10 ^ i ↔ j < e)) :
    (ns ++ (List.range (e - b)).map (b + ·)).Pairwise (· < ·) ∧ ∀ j, j ∈ ns ++ (List.range (e - b)).map (b + ·) ↔ InSp rD (i + 1) j := by
  have mem : ∀ j, j ∈ (List.range (e - b)).map (b + ·) ↔ b ≤ j ∧ j < e := fun j => by
    rw [List.mem_map]
    constructor
    · rintro ⟨x, hx, rfl⟩
      have := List.mem_range.mp hx
      omega
    · rintro ⟨q1, q2⟩
      exact ⟨j - b, List.mem_range.mpr (by omega), by omega⟩
  refine ⟨List.pairwise_append.mpr ⟨h1, ?_, fun x hx y hy => ?_⟩, fun j => ?_⟩
  · rw [List.pairwise_map]
    exact List.pairwise_lt_range.imp (fun h => by omega)
  · obtain ⟨d, hd, i', hi', q1, q2⟩ := (h2 x).mp hx
    have hp : 10 * 10 ^ i' ≤ 10 ^ i := by
      have : 10 ^ (i' + 1) ≤ 10 ^ i := Nat.pow_le_pow_right (by decide) hi'
      rw [Nat.pow_succ] at this
      omega
    have := (hb x d hd).mp (by omega)
    have := ((mem y).mp hy).1
    omega
  · rw [List.mem_append, h2, mem]
    constructor
    · rintro (⟨d, hd, i', hi', q⟩ | ⟨q1, q2⟩)
      · exact ⟨d, hd, i', by omega, q⟩
      · have hd := List.getElem?_eq_getElem (show j < rD.length by omega)
        refine ⟨_, hd, i, by omega, Nat.le_of_not_lt fun q => absurd ((hb j _ hd).mp q) (by omega), (hE j _ hd).mpr q2⟩
    · rintro ⟨d, hd, i', hi', q1, q2⟩
      rcases Nat.lt_or_ge i' i with hlt | hge
      · exact .inl ⟨d, hd, i', hlt, q1, q2⟩
      · obtain rfl : i' = i := by omega
        exact .inr ⟨Nat.le_of_not_lt fun q => absurd ((hb j d hd).mpr q) (by omega), (hE j d hd).mp q2⟩
theorem law_12 {prog : Program} {w : World} {s : Shared} {mg mb : Str → Option Value} {h₀ hf : Heap} {L fa a b : Addr} {cd : Value} {m cm : Str → Option Value} {rD : List (Nat × Nat)} {rv : List Value} {n0 : Nat}
    (G : Gr w mg mb h₀) (S : Ls h₀ L (lawCs L) hf s.heap m cm [(a, W.listOf (List.toArray []) n0)]) (R : RowOk rD) (hr : hf.IsList b (List.toArray rv)) (hR : All2 TxtV rv rD) (cr : cm "row" = some (.ref b)) (ms : m "spans" = some (.ref a)) :
    wpC (model prog w) (AL L fa cd) (exec (stOf 13 11) (lawEnv L fa cd)) (NextR (R12 h₀ L hf cm a rD s)) no s := by
  show wpC _ (Around.deeper _ (envOfC _ (Scope.mk _ _ _ _ _) _ _ _)) (exec (Stmt.For (PySem.Expr.Name _ _) (PySem.Expr.Call (PySem.Expr.Name _ _) [PySem.Expr.Constant (PySem.Const.int _) _ _] _ _) [Stmt.Assign [PySem.Expr.Name _ _] _ _, Stmt.Assign [PySem.Expr.Name _ _] _ _, Stmt.Expr _ _] [] _) (envOfC _ (Scope.mk _ _ _ _ _) _ _ _)) _ _ _
  have h10 := R.dok.2.1
  refine FL_range (h₀ := h₀) (cs := lawCs L) (hf := hf) (m := m) (cm := cm) (led := [(a, W.listOf (List.toArray []) n0)]) (n := 3) rfl (J12 rD a cm) (by decide) ⟨rfl, ms, [], [], n0, rfl, .nil, Nat.zero_le _, .nil, fun j => ⟨(fun q => nomatch q), fun ⟨_, _, i', hi', _⟩ => absurd hi' (Nat.not_lt_zero _)⟩⟩ (tgt_local (env := envOfC _ (Scope.mk _ _ _ _ _) _ _ _) rfl rfl) ?_ ?_ ?_
  · refine C_Call_type (T := "range") (nmB G S.F.keep (mgn_range G) boot_range (by decide) ⟨rfl, ?_⟩ rfl rfl rfl rfl (by decide))
    refine C_args_cons (wpC_of (wpAny_Constant_int ?_))
    refine C_args_nil (wpC_of (call_range_1 ?_))
    exact ⟨_, _, _, _, _, _, rfl, rfl, S.keeps (push_stays _ _), Heap.get?_push_size _ rfl⟩
  · rintro i t hf₁ h tk I oI m₁ cm₁ led₁ hi hff ⟨rfl, ms₁, vs, ns, n, rfl, h1, h2, h3, h4⟩ S₁
    have S2 := (S₁.sub (List.nil_sublist _)).frz
    have st2 := (S₁.sub (List.nil_sublist _)).frzS
    refine C_next (Rc h₀ L (frz h L (lawCs L) []) (fun (y : Str) => if y = "size" then some (.int (i : Int) t) else m₁ y) cm₁ "begin" rD (5 * 10 ^ i) s) ?_ ?_
    · exact at_cut (s := { s with heap := h, toks := tk }) (b := b) G S2 R (isList_keeps hr fun x o e => st2 _ _ (hff _ _ e)) hR cr hi (if_pos rfl) (.inl ⟨rfl, rfl⟩) rfl rfl
    rintro s' ⟨hA, tkA, hfA, cb, ub, rfl, SA, stA, cb1, cb2⟩
    refine C_next (Rc h₀ L hfA (fun (z : Str) => if z = "begin" then some (.int ((cb : Nat) : Int) ub) else (fun (y : Str) => if y = "size" then some (.int (i : Int) t) else m₁ y) z) cm₁ "end" rD (10 * 10 ^ i) s) ?_ ?_
    · exact at_cut (s := { s with heap := hA, toks := tkA }) (b := b) G SA R (isList_keeps hr fun x o e => stA _ _ (st2 _ _ (hff _ _ e))) hR cr hi rfl (.inr ⟨rfl, rfl⟩) rfl rfl
    rintro s' ⟨hB, tkB, hfB, ce, ue, rfl, SB', stB, ce1, ce2⟩
    have S3 := S₁.thaw SB' fun x o e => stB _ _ (stA _ _ e)
    obtain ⟨g1, g2⟩ := sp_next h3 h4 ce1 cb2 ce2
    refine C_next (fun s' => ∃ h' tk' vs' n', s' = { s with heap := h', toks := tk' } ∧ Ls h₀ L (lawCs L) hf₁ h' (fun (z : Str) => if z = "end" then some (.int ((ce : Nat) : Int) ue) else if z = "begin" then some (.int ((cb : Nat) : Int) ub) else if z = "size" then some (.int (i : Int) t) else m₁ z) cm₁ [(I, oI), (a, W.listOf (List.toArray vs') n')] ∧ All2 IntN vs' (ns ++ (List.range (ce - cb)).map (cb + ·))) ?_ ?_
    · show wpC _ _ (exec (Stmt.Expr (PySem.Expr.Call (PySem.Expr.Attribute (PySem.Expr.Name _ _) _ _) [PySem.Expr.Call (PySem.Expr.Name _ _) [PySem.Expr.Name _ _, PySem.Expr.Name _ _] _ _] _ _) _) _) _ _ _
      have hS := S3.N (a, W.listOf (List.toArray vs) n) (List.mem_cons_of_mem _ List.mem_cons_self)
      refine wpC_of (wpAny_Expr ?_)
      refine Call_method1 rfl rfl rfl (ldLoc S3.F ms₁ ?_)
      refine ⟨"list", "list.extend", PySem.F.plainAttrs_list, PySem.F.slot_list_extend, PySem.F.type_list_extend, ⟨_, hS.1, rfl⟩, (fun a' e => ⟨_, Value.ref.inj e ▸ hS.1, rfl⟩), ?_⟩
      refine PySem.Calls.callWith_builtin rfl (PySem.Calls.evalArgs_plain (PySem.Calls.spliced_cons ?_))
      refine PyProof.Rows.Call_Name rfl (nmB G S3.F.keep (mgn_range G) boot_range (by decide) ?_ rfl rfl rfl rfl (by decide))
      refine PyProof.Rows.callWith_type1 (sp_cons (ldLoc S3.F rfl (sp_cons (ldLoc S3.F rfl (sp_nil (call_range_2 (PySem.Calls.spliced_nil ?_)))))))
      have up := push_stays hB { cls := .type "range", data := .fields #[.int (cb : Int) ub, .int (ce : Int) ue, .int 1 tkB] }
      have hvn : vs.length = ns.length := h1.len
      refine call_meets PySem.F.slot_list_extend ⟨_, up _ _ hS.1, rfl⟩ PySem.F.entry_list_extend (PySem.F.args_list_extend_2 _ _) (ext_meets a _ (cb : Int) (ce : Int) _ _ _ (ce - cb) (List.toArray vs) n)
        ⟨rfl, Heap.get?_push_size _ rfl, small_one (by omega) (by omega) (by omega) (by omega), by rw [rangeSize_one]; split <;> omega, by omega, by rw [List.size_toArray]; omega, up _ _ hS.1, fun h' tk' acc' c' k hS' hit => ?_⟩
      refine ⟨rfl, h', tk', acc'.toList, c', rfl, ?_, ?_⟩
      · exact Ls.upd (l1 := [(I, oI)]) (l2 := []) (S3.keeps up) k (by rw [hS'])
      · obtain ⟨z1, z2⟩ := hit
        refine all2_of_get (by rw [Array.length_toList, z1, List.length_append, List.length_map, List.length_range, List.size_toArray, hvn]) fun j v x hv hx => ?_
        obtain ⟨e1, e2⟩ := z2 j v (by simpa using hv)
        rcases Nat.lt_or_ge j vs.length with hlt | hge
        · have e := e1 (by simpa using hlt)
          rw [List.getElem?_append_left (by omega)] at hx
          obtain ⟨y, hy, t', q⟩ := h1.at (i := j) (a := v) (by simpa using e)
          rw [hx] at hy
          obtain rfl := Option.some.inj hy
          exact ⟨t', q⟩
        · obtain ⟨t', rfl⟩ := e2 (by simpa using hge)
          rw [List.getElem?_append_right (by omega), List.getElem?_map] at hx
          have hr : j - ns.length < ce - cb := by
            refine Nat.lt_of_not_le fun q => ?_
            rw [List.getElem?_eq_none (by simpa using q)] at hx
            cases hx
          rw [List.getElem?_range hr] at hx
          have hx' : cb + (j - ns.length) = x := by simpa using hx
          refine ⟨t', ?_⟩
          rw [← hx', List.size_toArray, hvn]
          congr 1
          omega
    rintro s' ⟨h', tk', vs', n', rfl, S4, hvs'⟩
    refine C_execs_nil ⟨rfl, h', tk', hf₁, _, cm₁, [(a, W.listOf (List.toArray vs') n')], rfl, S4, fun _ _ e => e, rfl, ms₁, vs', _, n', rfl, hvs', ?_, g1, g2⟩
    rw [List.length_append, List.length_map, List.length_range]
    omega
  · rintro hf₁ h tk m₁ cm₁ led₁ hff ⟨rfl, ms₁, vs, ns, n, rfl, h1, h2, h3, h4⟩ S₁
    have S₂ := (S₁.sub (List.nil_sublist _)).frz
    have st := (S₁.sub (List.nil_sublist _)).frzS
    exact ⟨rfl, h, tk, _, m₁, vs, ns, rfl, S₂, fun x o e => st _ _ (hff _ _ e), ms₁, ⟨_, (S₁.sub (List.nil_sublist _)).frz_seq (S₁.N (a, _) List.mem_cons_self).1 rfl (by simp), rfl, n, rfl⟩, h1, h2, h3, h4⟩
end Lw12

section Lw13
open TI LCg PySem.SeqAt
theorem inc_ext : ∀ {a b : List Nat}, a.Pairwise (· < ·) → b.Pairwise (· < ·) → (∀ x, x ∈ a ↔ x ∈ b) → a = b
  | [], [], _, _, _ => rfl
  | [], y :: b, _, _, h => by have := (h y).mpr List.mem_cons_self; cases this
  | x :: a, [], _, _, h => by have := (h x).mp List.mem_cons_self; cases this
  | x :: a, y :: b, h1, h2, h => by
    obtain ⟨p1, p2⟩ := List.pairwise_cons.mp h1
    obtain ⟨q1, q2⟩ := List.pairwise_cons.mp h2
    have e : x = y := by
      rcases List.mem_cons.mp ((h x).mp List.mem_cons_self) with e | hx
      · exact e
      · rcases List.mem_cons.mp ((h y).mpr List.mem_cons_self) with e | hy
        · exact e.symm
        · have := p1 y hy
          have := q1 x hx
          omega
    subst e
    congr 1
    refine inc_ext p2 q2 fun z => ⟨fun hz => ?_, fun hz => ?_⟩
    · rcases List.mem_cons.mp ((h z).mp (List.mem_cons_of_mem _ hz)) with e | q
      · exact absurd (p1 z hz) (by omega)
      · exact q
    · rcases List.mem_cons.mp ((h z).mpr (List.mem_cons_of_mem _ hz)) with e | q
      · exact absurd (q1 z hz) (by omega)
      · exact q
theorem ne_ints {A : Around} {s : Shared} {l b : Addr} {vs ws : List Value} {ns : List Nat} (hl : s.heap.IsList l (List.toArray vs)) (hb : s.heap.IsList b (List.toArray ws)) (h1 : All2 IntN vs ns) (h2 : All2 IntN ws ns) (hu : A.units < cLine) : RcNeAt A s (.ref l) (.ref b) false := by
  have hz : vs.length = ws.length := by rw [h1.len, h2.len]
  have r := RcNeAt.lists (e := fun _ => true) hl hb (by simpa using hz) hu fun j q1 q2 => by
    have q1' : j < vs.length := by simpa using q1
    have q2' : j < ws.length := by simpa using q2
    obtain ⟨n, g1, t1, e1⟩ := h1.get j q1'
    obtain ⟨n', g2, t2, e2⟩ := h2.get j q2'
    rw [g1] at g2
    obtain rfl := Option.some.inj g2
    have := EqAt.int_int (A := A.in1) (s := s) (n : Int) t1 (n : Int) t2
    rw [beq_self_eq_true] at this
    simpa [e1, e2] using this
  have e : (!(List.range (List.toArray vs).size).all fun _ => true) = false := by simp
  rw [e] at r
  exact r
noncomputable def SolAt (rD : List (Nat × Nat)) (j : Nat) : Prop := ∃ d, rD[j]? = some d ∧ Sol d.1
theorem inSp_sol {rD : List (Nat × Nat)} (j : Nat) : InSp rD 3 j ↔ SolAt rD j := by
  constructor
  · rintro ⟨d, hd, i', hi', q1, q2⟩
    refine ⟨d, hd, ?_⟩
    unfold Sol
    match i', hi' with
    | 0, _ => exact .inl ⟨q1, q2⟩
    | 1, _ => exact .inr (.inl ⟨q1, q2⟩)
    | 2, _ => exact .inr (.inr ⟨q1, q2⟩)
  · rintro ⟨d, hd, q | q | q⟩
    · exact ⟨d, hd, 0, by decide, q⟩
    · exact ⟨d, hd, 1, by decide, q⟩
    · exact ⟨d, hd, 2, by decide, q⟩
noncomputable def J13 (rD : List (Nat × Nat)) (hf : Heap) (i : Nat) (ys : List Value) (hf' : Heap) : Prop :=
  hf.StaysIn hf' ∧ ∃ ks, All2 IntN ys ks ∧ ks.Pairwise (· < ·) ∧ ∀ j, j ∈ ks ↔ j < i ∧ SolAt rD j
theorem law_13 {prog : Program} {w : World} {s : Shared} {mg mb : Str → Option Value} {h₀ hf : Heap} {L fa a b : Addr} {cd : Value} {m cm : Str → Option Value} {rD : List (Nat × Nat)} {rv vs : List Value} {ns : List Nat}
    (G : Gr w mg mb h₀) (S : Ls h₀ L (lawCs L) hf s.heap m cm []) (R : RowOk rD) (hr : hf.IsList b (List.toArray rv)) (hR : All2 TxtV rv rD) (cr : cm "row" = some (.ref b)) (ms : m "spans" = some (.ref a)) (ha : hf.IsList a (List.toArray vs)) (hv : All2 IntN vs ns) (hs : ns.Pairwise (· < ·)) (hns : ∀ j, j ∈ ns ↔ InSp rD 3 j) :
    wpC (model prog w) (AL L fa cd) (exec (stOf 13 12) (lawEnv L fa cd)) (NextR (Rk h₀ L hf m cm s)) no s := by
  show wpC _ (Around.deeper _ (envOfC _ (Scope.mk _ _ _ _ _) _ _ _)) (exec (Stmt.If (PySem.Expr.Compare (PySem.Expr.Name _ _) _ [PySem.Expr.ListComp _ [⟨PySem.Expr.Name _ _, _, [PySem.Expr.Compare (PySem.Expr.Subscript (PySem.Expr.Call (PySem.Expr.Name _ _) [PySem.Expr.Constant (PySem.Const.str _) _ _, PySem.Expr.Subscript (PySem.Expr.Name _ _) (PySem.Expr.Name _ _) _, PySem.Expr.Constant (PySem.Const.str _) _ _] _ _) (PySem.Expr.Constant (PySem.Const.int _) _ _) _) _ [PySem.Expr.Constant (PySem.Const.str _) _ _] _], 0⟩] (Scope.mk _ _ _ _ _) _] _) _ [] _) (envOfC _ (Scope.mk _ _ _ _ _) _ _ _)) _ _ _
  have h10 := R.dok.2.1
  have hlr : rv.length = rD.length := hR.len
  obtain ⟨oc, od, fd, osl, h51⟩ := fn_51 w
  refine if_ne (wpC_of (ldLoc S.F ms ?_)) rfl
  refine LC_eval (h₀ := h₀) (L := L) (cs := lawCs L) (m := m) (cm := cm) (led := []) (cl := [(("row" : Str), L + 1 + 1 + 1 + 1)]) rfl ?clos (by decide) rfl ?nm ?_
  case clos => exact rfl
  case nm => decide
  refine wpC_mono (ev_range_len G S (fun Q hq => ldC S.C (c := L + 1 + 1 + 1 + 1) rfl cr hq) hr (by omega) rfl rfl rfl rfl rfl) (fun v s' q => .inr ?_) fun _ _ q => q
  obtain ⟨r, t, u, x, h₁, tk₁, rfl, rfl, S₁, hr₁⟩ := q
  refine ⟨r, rv.length, t, u, x, hf, h₁, tk₁, _, J13 rD hf, rfl, rfl, S₁, hr₁, by omega, ⟨fun _ _ e => e, [], .nil, .nil, fun j => ⟨(fun q => nomatch q), fun q => absurd q.1 (Nat.not_lt_zero _)⟩⟩, fun I C => asg_name rfl rfl, ?_, ?_⟩
  · rintro i v ys hf₂ h tk I oI C oC D' m₂ ⟨t', rfl⟩ hi hff ⟨hf02, ks, k1, k2, k3⟩ S₂ hn hpm
    rw [Int.zero_add] at hpm
    obtain ⟨d, hd, rel, ur, hvv, ht⟩ := hR.get i hi
    have hvi : rv[i]? = some (.str rel ur) := by rw [List.getElem?_eq_getElem hi, hvv]
    obtain ⟨d1, d2, d3⟩ := R.dok.2.2 d (List.mem_of_getElem? hd)
    obtain ⟨o, ho, ron⟩ := ns_obj hn
    have hoC := (S₂.N (C, oC) (List.mem_cons_of_mem _ List.mem_cons_self)).1
    refine T_one (C_isTrue_Compare1 (C_Subscript (C_Call_fn (f := 51) (o := ⟨oc, od, .func fd, osl⟩) rfl (nmG G S₂.F.keep (mg_51 G) ⟨rfl, ?_⟩ rfl rfl rfl (by decide)))))
    refine C_args_cons (wpC_of (wpAny_Constant_str ?_))
    refine C_args_cons (wpC_of (A_Subscript (nmC rfl (S₂.rdC (c := L + 1 + 1 + 1 + 1) rfl cr) (nmL hn hpm ?_ rfl rfl (by decide)) rfl rfl (by decide))))
    refine item_list (isList_keeps hr fun x o e => S₂.K _ _ (hf02 _ _ e)) (by omega) (by omega) (by rw [Int.toNat_natCast]; exact hvi) ?_
    refine C_args_cons (wpC_of (wpAny_Constant_str ?_))
    refine C_args_nil (C_kws_nil ⟨S₂.F.keep _ _ (G.X _ _ h51), ?_⟩)
    refine wpC_mono (alias_call (s := { s with heap := h, toks := _ }) G rfl rfl S₂ d1 d2 d3 ht) (fun v s' q => ?_) fun _ _ q => q
    obtain ⟨T, sys, rn, t1, t2, t3, h', tk', rfl, rfl, S₃, st, tup, ok⟩ := q
    refine wpAny_Constant_int (item_tupleT (l := [.str sys t1, .str rn t2, .str "5.10" t3]) (j := 0) (isTuple_keeps tup S₃.K) (by decide) (by decide) rfl rfl ?_)
    refine wpC_of (wpAny_Constant_str (PyProof.Rows.eq_str (wpAny_truthy_bool ?_)))
    have hoC' := (S₃.N (C, oC) (List.mem_cons_of_mem _ List.mem_cons_self)).1
    have hn' : h'.Ns C m₂ := ron.ns (by rw [hoC']; rw [hoC] at ho; exact ho)
    rcases ok with ⟨h5, rfl, _⟩ | ⟨h5, rfl, _⟩
    · rw [if_neg (by decide)]
      refine ⟨h', _, _, rfl, st, ⟨fun x o e => st _ _ (hf02 _ _ e), ks, k1, k2, fun j => ?_⟩, S₃⟩
      rw [k3]
      refine ⟨fun q => ⟨by omega, q.2⟩, fun q => ⟨Nat.lt_of_not_le fun z => ?_, q.2⟩⟩
      obtain ⟨e, he, hse⟩ := q.2
      obtain rfl : j = i := by omega
      rw [hd] at he
      obtain rfl := Option.some.inj he
      exact (txt_lt5 d1 d2).mp h5 hse
    · rw [if_pos (by decide)]
      have hso : Sol d.1 := Classical.byContradiction fun q => h5 ((txt_lt5 d1 d2).mpr q)
      refine wpC_of (nmL hn' hpm ?_ rfl rfl (by decide))
      refine ⟨h', _, _, rfl, st, ⟨fun x o e => st _ _ (hf02 _ _ e), ks ++ [i], k1.app (.cons ⟨t', rfl⟩ .nil), ?_, fun j => ?_⟩, S₃⟩
      · refine List.pairwise_append.mpr ⟨k2, List.pairwise_singleton _ _, fun x hx y hy => ?_⟩
        rw [List.mem_singleton.mp hy]
        exact ((k3 x).mp hx).1
      · rw [List.mem_append, List.mem_singleton, k3]
        constructor
        · rintro (⟨q1, q2⟩ | rfl)
          · exact ⟨by omega, q2⟩
          · exact ⟨by omega, d, hd, hso⟩
        · rintro ⟨q1, q2⟩
          rcases Nat.lt_or_ge j i with hlt | hge
          · exact .inl ⟨hlt, q2⟩
          · exact .inr (by omega)
  · rintro D' g tk' zs hf₃ hff' ⟨hf02, ks, k1, k2, k3⟩ S₅
    have hfh : hf.StaysIn g := fun b o e => S₅.K b o (hf02 b o e)
    obtain rfl : ks = ns := inc_ext k2 hs fun j => by
      rw [k3, hns, inSp_sol]
      refine ⟨fun q => q.2, fun q => ⟨?_, q⟩⟩
      obtain ⟨d, hd, _⟩ := q
      rw [hlr]
      exact (List.getElem?_eq_some_iff.mp hd).1
    refine ⟨ne_ints (isList_keeps ha hfh) ⟨_, (S₅.N (D', _) List.mem_cons_self).1, rfl, zs.length, rfl⟩ hv k1 (al_u0 _), rfl, g, tk', rfl, ?_⟩
    have S₆ := S₅.drop1
    exact ⟨S₆.F, S₆.C, S₆.U, hfh, (fun _ q => nomatch q), .nil, S.O, S.aL, S.aC⟩
end Lw13

section Lw14
open TI LCg PySem.SeqAt
structure OldOk (oD : List (Nat × Nat)) (rD : List (Nat × Nat)) : Prop where
  len : oD.length ≤ 30
  inc : oD.Pairwise CodeLe
  ok : ∀ d ∈ oD, Sol d.1 ∧ d.1 ≤ 999 ∧ d.2 < 5 ∧ d ∈ rD
noncomputable def J14 (rD : List (Nat × Nat)) (ns : List Nat) (hf : Heap) (i : Nat) (ys : List Value) (hf' : Heap) : Prop :=
  hf.StaysIn hf' ∧ ∃ ds, All2 TxtV ys ds ∧ ds.length ≤ i ∧ ds.Pairwise CodeLe ∧ ∀ d ∈ ds, (Sol d.1 ∧ d.1 ≤ 999 ∧ d.2 < 5 ∧ d ∈ rD) ∧ ∃ i' j', i' < i ∧ ns[i']? = some j' ∧ rD[j']? = some d
noncomputable def R14 (h₀ : Heap) (L : Addr) (hf : Heap) (m cm : Str → Option Value) (rD : List (Nat × Nat)) (s : Shared) (s' : Shared) : Prop :=
  ∃ h tk hf' aO ov oD, s' = { s with heap := h, toks := tk } ∧ Ls h₀ L (lawCs L) hf' h m (fun y => if y = "old" then some (.ref aO) else cm y) [] ∧ hf.StaysIn hf' ∧ hf'.IsList aO (List.toArray ov) ∧ All2 TxtV ov oD ∧ OldOk oD rD
theorem law_14 {prog : Program} {w : World} {s : Shared} {h₀ hf : Heap} {L fa a b aN : Addr} {cd : Value} {m cm : Str → Option Value} {rD : List (Nat × Nat)} {rv vs : List Value} {ns : List Nat} {f : Str → Option Value}
    (S : Ls h₀ L (lawCs L) hf s.heap m cm []) (R : RowOk rD) (hr : hf.IsList b (List.toArray rv)) (hR : All2 TxtV rv rD) (cr : cm "row" = some (.ref b)) (cn : cm "names" = some (.ref aN)) (hm : hf.MapOf (PySem.strKind prog w) aN f) (hd' : DictOk f rD NameV) (ms : m "spans" = some (.ref a)) (ha : hf.IsList a (List.toArray vs)) (hv : All2 IntN vs ns) (hz : ns.length ≤ 30) (hs : ns.Pairwise (· < ·)) (hns : ∀ j, j ∈ ns ↔ InSp rD 3 j) :
    wpC (model prog w) (AL L fa cd) (exec (stOf 13 13) (lawEnv L fa cd)) (NextR (R14 h₀ L hf m cm rD s)) no s := by
  show wpC _ (Around.deeper _ (envOfC _ (Scope.mk _ _ _ _ _) _ _ _)) (exec (Stmt.Assign [PySem.Expr.Name _ _] (PySem.Expr.ListComp (PySem.Expr.Subscript (PySem.Expr.Name _ _) (PySem.Expr.Name _ _) _) [⟨PySem.Expr.Name _ _, PySem.Expr.Name _ _, [PySem.Expr.Compare (PySem.Expr.Subscript (PySem.Expr.Name _ _) (PySem.Expr.Subscript (PySem.Expr.Name _ _) (PySem.Expr.Name _ _) _) _) _ [PySem.Expr.Subscript (PySem.Expr.Name _ _) (PySem.Expr.Name _ _) _] _], 0⟩] (Scope.mk _ _ _ _ _) _) _) (envOfC _ (Scope.mk _ _ _ _ _) _ _ _)) _ _ _
  have h10 := R.dok.2.1
  have hlr : rv.length = rD.length := hR.len
  have hlv : vs.length = ns.length := hv.len
  refine C_Assign_Name (hs := rfl) ?_
  refine LC_eval (h₀ := h₀) (L := L) (cs := lawCs L) (m := m) (cm := cm) (led := []) (cl := [(("row" : Str), L + 1 + 1 + 1 + 1), (("names" : Str), L + 1 + 1 + 1)]) rfl ?clos (by decide) rfl ?nm ?_
  case clos => exact rfl
  case nm => decide
  refine wpC_of (ldLoc S.F ms (.inl ?_))
  refine ⟨a, vs, hf, s.heap, s.toks, _, J14 rD ns hf, rfl, rfl, S, ha, by omega, ⟨fun _ _ e => e, [], .nil, Nat.zero_le _, .nil, (fun _ q => nomatch q)⟩, fun I C => asg_name rfl rfl, ?_, ?_⟩
  · rintro i v ys hf₂ h tk I oI C oC D' m₂ hvi hi hff ⟨hf02, ds, k1, k2, k3, k4⟩ S₂ hn hpm
    have hvi' : vs[i]? = some v := by simpa using hvi
    obtain ⟨j, hj, t', rfl⟩ := hv.at hvi'
    have hjm : j ∈ ns := List.mem_of_getElem? hj
    obtain ⟨d, hd, hso⟩ := (inSp_sol j).mp ((hns j).mp hjm)
    have hjl : j < rD.length := (List.getElem?_eq_some_iff.mp hd).1
    have hdm := List.mem_of_getElem? hd
    obtain ⟨d1, d2, d3⟩ := R.dok.2.2 d hdm
    have hn3 : 3 ≤ d.1 := by unfold Sol at hso; omega
    obtain ⟨e, he, rel, ur, hvv, ht⟩ := hR.get j (by omega)
    rw [hd] at he
    obtain rfl := Option.some.inj he
    have hrj : rv[j]? = some (.str rel ur) := by rw [List.getElem?_eq_getElem (by omega), hvv]
    have hfh : hf.StaysIn h := fun x o e => S₂.K _ _ (hf02 _ _ e)
    obtain ⟨nv, hnv, nm, un, rfl, n1, n2⟩ := hd' d hdm rel ht
    refine T_one (wpC_of (wpAny_isTrue_Compare1 ?_))
    refine A_Subscript (nmC rfl (S₂.rdC (c := L + 1 + 1 + 1) rfl cn) (A_Subscript (nmC rfl (S₂.rdC (c := L + 1 + 1 + 1 + 1) rfl cr) (nmL hn hpm ?_ rfl rfl (by decide)) rfl rfl (by decide))) rfl rfl (by decide))
    refine item_list (isList_keeps hr hfh) (by omega) (by omega) (by rw [Int.toNat_natCast]; exact hrj) ?_
    refine item_dict (mapOf_keeps hm hfh) hnv ?_
    refine A_Subscript (nmC rfl (S₂.rdC (c := L + 1 + 1 + 1 + 1) rfl cr) (nmL hn hpm ?_ rfl rfl (by decide)) rfl rfl (by decide))
    refine item_list (isList_keeps hr hfh) (by omega) (by omega) (by rw [Int.toNat_natCast]; exact hrj) ?_
    refine PyProof.Rows.ne_str (wpAny_truthy_bool ?_)
    have stay : ∀ {x}, (x ∈ ds → ((Sol x.1 ∧ x.1 ≤ 999 ∧ x.2 < 5 ∧ x ∈ rD) ∧ ∃ i' j', i' < i + 1 ∧ ns[i']? = some j' ∧ rD[j']? = some x)) := fun {x} hx => by
      obtain ⟨q1, i', j', q2, q3⟩ := k4 x hx
      exact ⟨q1, i', j', by omega, q3⟩
    by_cases hk5 : d.2 < 5
    · have hne : (nm != rel) = true := by
        rw [bne_iff_ne]
        rintro rfl
        have := (isT_inj (n1 hk5 hn3) ht (by omega) (by omega) d3 d3).1
        omega
      rw [if_pos hne]
      refine wpC_of (A_Subscript (nmC rfl (S₂.rdC (c := L + 1 + 1 + 1 + 1) rfl cr) (nmL hn hpm ?_ rfl rfl (by decide)) rfl rfl (by decide)))
      refine item_list (isList_keeps hr hfh) (by omega) (by omega) (by rw [Int.toNat_natCast]; exact hrj) ?_
      refine ⟨h, _, _, rfl, fun _ _ e => e, ⟨hf02, ds ++ [d], k1.app (.cons ⟨rel, ur, rfl, ht⟩ .nil), by rw [List.length_append, List.length_singleton]; omega, ?_, fun x hx => ?_⟩, S₂⟩
      · refine List.pairwise_append.mpr ⟨k3, List.pairwise_singleton _ _, fun x hx y hy => ?_⟩
        rw [List.mem_singleton.mp hy]
        obtain ⟨_, i', j', q2, q3, q4⟩ := k4 x hx
        have hjj : j' < j := pairwise_at hs q2 q3 hj
        exact pairwise_at R.inc hjj q4 hd
      · rcases List.mem_append.mp hx with hx | hx
        · exact stay hx
        · rw [List.mem_singleton.mp hx]
          exact ⟨⟨hso, d2, hk5, hdm⟩, i, j, by omega, hj, hd⟩
    · have hre : nm = rel := isT_eq (n2 (by omega)) ht
      rw [if_neg (by rw [hre]; simp)]
      exact ⟨h, _, _, rfl, fun _ _ e => e, ⟨hf02, ds, k1, by omega, k3, fun x hx => stay hx⟩, S₂⟩
  · rintro D' h tk ys hf₂ hff ⟨hf02, ds, k1, k2, k3, k4⟩ S₂
    refine Ls.stC S₂ (c := L + 1 + 1 + 1 + 1 + 1 + 1) rfl rfl rfl fun h' S₃ k => ?_
    refine ⟨rfl, h', tk, _, D', ys, ds, rfl, S₃.drop1.frz, fun b o e => S₃.drop1.frzS _ _ (hf02 _ _ e), ⟨_, S₃.drop1.frz_seq (S₃.N (D', _) List.mem_cons_self).1 rfl (by simp), rfl, ys.length, rfl⟩, k1, ⟨by omega, k3, fun d hd => (k4 d hd).1⟩⟩
end Lw14

section Lw15
open TI LCg PySem.SeqAt
noncomputable def nw (d : Nat × Nat) : Nat × Nat := (d.1 - 3, d.2)
theorem code_nw {d e : Nat × Nat} (hd : 3 ≤ d.1) (he : 3 ≤ e.1) : (code (nw d) < code (nw e) ↔ code d < code e) := by
  unfold code nw
  simp only
  omega
noncomputable def R15 (h₀ : Heap) (L : Addr) (hf : Heap) (cm : Str → Option Value) (oD : List (Nat × Nat)) (s : Shared) (s' : Shared) : Prop :=
  ∃ h tk hf' m' aW wv, s' = { s with heap := h, toks := tk } ∧ Ls h₀ L (lawCs L) hf' h m' cm [] ∧ hf.StaysIn hf' ∧ m' "new" = some (.ref aW) ∧ hf'.IsList aW (List.toArray wv) ∧ All2 TxtV wv (oD.map nw)
theorem law_15 {prog : Program} {w : World} {s : Shared} {h₀ hf : Heap} {L fa aO aN : Addr} {cd : Value} {m cm : Str → Option Value} {oD rD : List (Nat × Nat)} {ov : List Value} {f : Str → Option Value}
    (S : Ls h₀ L (lawCs L) hf s.heap m cm []) (co : cm "old" = some (.ref aO)) (ho : hf.IsList aO (List.toArray ov)) (hO : All2 TxtV ov oD) (ok : OldOk oD rD) (cn : cm "names" = some (.ref aN)) (hm : hf.MapOf (PySem.strKind prog w) aN f) (hd' : DictOk f rD NameV) :
    wpC (model prog w) (AL L fa cd) (exec (stOf 13 14) (lawEnv L fa cd)) (NextR (R15 h₀ L hf cm oD s)) no s := by
  show wpC _ (Around.deeper _ (envOfC _ (Scope.mk _ _ _ _ _) _ _ _)) (exec (Stmt.Assign [PySem.Expr.Name _ _] (PySem.Expr.ListComp (PySem.Expr.Subscript (PySem.Expr.Name _ _) (PySem.Expr.Name _ _) _) [⟨PySem.Expr.Name _ _, PySem.Expr.Name _ _, [], 0⟩] (Scope.mk _ _ _ _ _) _) _) (envOfC _ (Scope.mk _ _ _ _ _) _ _ _)) _ _ _
  have hlo : ov.length = oD.length := hO.len
  have h30 := ok.len
  refine LC_assign (h₀ := h₀) (L := L) (cs := lawCs L) (m := m) (cm := cm) (led := []) (cl := [(("names" : Str), L + 1 + 1 + 1)]) rfl ?sw rfl rfl rfl ?clos (by decide) rfl ?nm ?_
  case sw => exact rfl
  case clos => exact rfl
  case nm => decide
  refine wpC_of (ldC S.C (c := L + 1 + 1 + 1 + 1 + 1 + 1) rfl co (.inl ?_))
  refine ⟨aO, ov, hf, s.heap, s.toks, _, fun i ys hf' => hf.StaysIn hf' ∧ All2 TxtV ys ((oD.map nw).take i), rfl, rfl, S, ho, by omega, ⟨fun _ _ e => e, .nil⟩, fun I C => asg_name rfl rfl, ?_, ?_⟩
  · rintro i v ys hf₂ h tk I oI C oC D' m₂ hvi hi hff ⟨hf02, hall⟩ S₂ hn hpm
    refine T_nil ?_
    rw [if_pos rfl]
    obtain ⟨d, hd, rel, ur, rfl, ht⟩ := hO.at (i := i) (a := v) (by simpa using hvi)
    obtain ⟨o1, o2, o3, o4⟩ := ok.ok d (List.mem_of_getElem? hd)
    have hfh : hf.StaysIn h := fun x o e => S₂.K _ _ (hf02 _ _ e)
    obtain ⟨nv, hnv, nm, un, rfl, n1, n2⟩ := hd' d o4 rel ht
    refine wpC_of (A_Subscript (nmC rfl (S₂.rdC (c := L + 1 + 1 + 1) rfl cn) (nmL hn hpm ?_ rfl rfl (by decide)) rfl rfl (by decide)))
    refine item_dict (mapOf_keeps hm hfh) hnv ?_
    refine ⟨h, _, _, rfl, fun _ _ e => e, ⟨hf02, ?_⟩, S₂⟩
    rw [List.take_add_one, List.getElem?_map, hd]
    refine hall.app (.cons ⟨nm, un, rfl, ?_⟩ .nil)
    exact n1 o3 (by unfold Sol at o1; omega)
  · rintro D' h tk ys hf₂ hff ⟨hf02, hall⟩ S₂ h' tk' S₃
    have hl : (oD.map nw).take ov.length = oD.map nw := by rw [hlo, ← List.length_map (as := oD) nw, List.take_length]
    rw [hl] at hall
    exact ⟨rfl, h', tk', _, _, D', ys, rfl, S₃.drop1.frz, fun b o e => S₃.drop1.frzS _ _ (hf02 _ _ e), if_pos rfl, ⟨_, S₃.drop1.frz_seq (S₃.N (D', _) List.mem_cons_self).1 rfl (by simp), rfl, ys.length, rfl⟩, hall⟩
end Lw15

section Lw16
open TI LCg PySem.SeqAt
theorem ne_int1 {A : Around} {s : Shared} (c : Int) (t u : Tok) : RcNeAt A s (.int c t) (.int c u) false := by
  have r := RcNeAt.int_int (A := A) (s := s) c t c u
  rw [beq_self_eq_true] at r
  exact r
theorem map_at {l : List (Nat × Nat)} {j : Nat} {e' : Nat × Nat} (h : (l.map nw)[j]? = some e') : ∃ e, l[j]? = some e ∧ nw e = e' := by
  rw [List.getElem?_map] at h
  cases q : l[j]? with
  | none => rw [q] at h; cases h
  | some e => rw [q] at h; exact ⟨e, rfl, by simpa using h⟩
noncomputable def cnt (p : Nat × Nat → Bool) (l : List (Nat × Nat)) : Nat := (l.filter p).length
theorem cnt_take {p : Nat × Nat → Bool} {l : List (Nat × Nat)} {i : Nat} {d : Nat × Nat} (h : l[i]? = some d) : cnt p (l.take (i + 1)) = cnt p (l.take i) + if p d then 1 else 0 := by
  unfold cnt
  rw [List.take_add_one, h, List.filter_append, List.length_append]
  congr 1
  cases hp : p d <;> simp [hp]
theorem cut_cnt {oD : List (Nat × Nat)} (p : Nat × Nat → Bool) (hp : ∀ x y, CodeLe x y → p y = true → p x = true) (h : oD.Pairwise CodeLe) : cnt p oD ≤ oD.length ∧ ∀ (i : Nat) a, oD[i]? = some a → (p a = true ↔ i < cnt p oD) := by
  obtain ⟨c, c1, c2, c3⟩ := cut_at (fun a => !p a) oD fun i j a b hij ha hb q => by
    rcases Nat.lt_or_ge i j with hlt | hge
    · have hle : CodeLe a b := pairwise_at h hlt ha hb
      cases hb' : p b with
      | false => rfl
      | true =>
        have := hp a b hle hb'
        simp [this] at q
    · obtain rfl : i = j := by omega
      rw [ha] at hb
      obtain rfl := Option.some.inj hb
      exact q
  have hc : cnt p oD = c := by
    rw [← c3]
    unfold cnt
    simp
  rw [hc]
  refine ⟨c1, fun i a ha => ?_⟩
  have := c2 i a ha
  cases q : p a with
  | false =>
    rw [q] at this
    have := this.mp rfl
    exact ⟨(fun z => by cases z), fun z => absurd z (by omega)⟩
  | true =>
    rw [q] at this
    exact ⟨fun _ => Nat.lt_of_not_le fun z => by have := this.mpr z; simp at this, fun _ => rfl⟩
noncomputable def Rt1 (h₀ : Heap) (L : Addr) (hf : Heap) (m cm : Str → Option Value) (d : Nat × Nat) (s : Shared) (s' : Shared) : Prop :=
  ∃ h tk hf' u, s' = { s with heap := h, toks := tk } ∧ Ls h₀ L (lawCs L) hf' h (fun (z : Str) => if z = "told" then some (.ref u) else m z) cm [] ∧ hf.StaysIn hf' ∧ Lv.zero.list.rd hf' (.ref u) (cvOf (nw d).1 (nw d).2)
noncomputable def Rn (h₀ : Heap) (L : Addr) (hf : Heap) (m cm : Str → Option Value) (y : Str) (c : Nat) (s : Shared) (s' : Shared) : Prop :=
  ∃ h tk hf' u, s' = { s with heap := h, toks := tk } ∧ Ls h₀ L (lawCs L) hf' h (fun (z : Str) => if z = y then some (.int (c : Int) u) else m z) cm [] ∧ hf.StaysIn hf'
noncomputable def Rl (h₀ : Heap) (L : Addr) (hf : Heap) (m cm : Str → Option Value) (s : Shared) (s' : Shared) : Prop :=
  ∃ h tk, s' = { s with heap := h, toks := tk } ∧ Ls h₀ L (lawCs L) hf h m cm []
noncomputable def J16 (aO aR aW : Addr) (_ : Nat) (_ : Heap) (m' cm' : Str → Option Value) (led' : List (Addr × Obj)) : Prop :=
  led' = [] ∧ m' "new" = some (.ref aW) ∧ cm' "old" = some (.ref aO) ∧ cm' "ranks" = some (.ref aR)
noncomputable def R16 (h₀ : Heap) (L : Addr) (s : Shared) (s' : Shared) : Prop :=
  ∃ h tk hf' m' cm', s' = { s with heap := h, toks := tk } ∧ Ls h₀ L (lawCs L) hf' h m' cm' []
theorem law_16 {prog : Program} {w : World} {s : Shared} {mg mb : Str → Option Value} {h₀ hf : Heap} {L fa aO aR aW : Addr} {cd : Value} {m cm : Str → Option Value} {oD rD : List (Nat × Nat)} {ov wv : List Value} {f : Str → Option Value}
    (G : Gr w mg mb h₀) (S : Ls h₀ L (lawCs L) hf s.heap m cm []) (R : RowOk rD) (co : cm "old" = some (.ref aO)) (ho : hf.IsList aO (List.toArray ov)) (hO : All2 TxtV ov oD) (ok : OldOk oD rD) (cr : cm "ranks" = some (.ref aR)) (hm : hf.MapOf (PySem.strKind prog w) aR f) (hd' : DictOk f rD (RankV hf))
    (mw : m "new" = some (.ref aW)) (hw : hf.IsList aW (List.toArray wv)) (hW : All2 TxtV wv (oD.map nw)) :
    wpC (model prog w) (AL L fa cd) (exec (stOf 13 15) (lawEnv L fa cd)) (NextR (R16 h₀ L s)) no s := by
  show wpC _ (Around.deeper _ (envOfC _ (Scope.mk _ _ _ _ _) _ _ _)) (exec (Stmt.For (PySem.Expr.Name _ _) (PySem.Expr.Call (PySem.Expr.Name _ _) [PySem.Expr.Call (PySem.Expr.Name _ _) [PySem.Expr.Name _ _] _ _] _ _) [Stmt.Assign _ _ _, Stmt.Assign _ _ _, Stmt.Assign _ _ _, Stmt.If _ _ _ _, Stmt.If _ _ _ _] [] _) (envOfC _ (Scope.mk _ _ _ _ _) _ _ _)) _ _ _
  have hlo : ov.length = oD.length := hO.len
  have hlw : wv.length = oD.length := by rw [hW.len, List.length_map]
  have h30 := ok.len
  obtain ⟨oc4, od4, fd4, osl4, h44⟩ := fn_44 w
  obtain ⟨oc6, od6, fd6, osl6, h69⟩ := fn_69 w
  obtain ⟨oc7, od7, fd7, osl7, h78⟩ := fn_78 w
  obtain ⟨oc9, od9, fd9, osl9, h92⟩ := fn_92 w
  refine FL_range (h₀ := h₀) (cs := lawCs L) (hf := hf) (m := m) (cm := cm) (led := []) (n := ov.length) rfl (J16 aO aR aW) (by omega) ⟨rfl, mw, co, cr⟩ (tgt_cell (c := L + 1 + 1 + 1 + 1 + 1) rfl rfl rfl) (ev_range_len G S (fun Q hq => ldC S.C (c := L + 1 + 1 + 1 + 1 + 1 + 1) rfl co hq) ho (by omega) rfl rfl rfl rfl rfl) ?_ ?_
  · rintro i t hf₁ h tk I oI m₁ cm₁ led₁ hi hff ⟨rfl, mw₁, co₁, cr₁⟩ S₁
    have S2 := (S₁.sub (List.nil_sublist _)).frz
    have st2 : hf.StaysIn (frz h L (lawCs L) []) := fun x o e => (S₁.sub (List.nil_sublist _)).frzS _ _ (hff _ _ e)
    obtain ⟨d, hd, rel, ur, hv, ht⟩ := hO.get i hi
    have hvi : ov[i]? = some (.str rel ur) := by rw [List.getElem?_eq_getElem hi, hv]
    obtain ⟨o1, o2, o3, o4⟩ := ok.ok d (List.mem_of_getElem? hd)
    have hn3 : 3 ≤ d.1 := by unfold Sol at o1; omega
    obtain ⟨d', hnd, nm, un, hnv, hnt⟩ := hW.get i (by omega)
    rw [List.getElem?_map, hd] at hnd
    obtain rfl : nw d = d' := by simpa using hnd
    have hwi : wv[i]? = some (.str nm un) := by rw [List.getElem?_eq_getElem (by omega), hnv]
    obtain ⟨rvk, hrk, rdk⟩ := hd' d o4 rel ht
    refine C_next (Rt1 h₀ L (frz h L (lawCs L) []) m₁ (fun (z : Str) => if z = "k" then some (.int (i : Int) t) else cm₁ z) d s) ?_ ?_
    · show wpC _ _ (exec (Stmt.Assign [PySem.Expr.Name _ _] (PySem.Expr.Call (PySem.Expr.Name _ _) [PySem.Expr.Subscript (PySem.Expr.Name _ _) (PySem.Expr.Name _ _) _] _ _) _) _) _ _ _
      refine C_Assign_Name (hs := rfl) (C_Call_fn (f := 44) (o := ⟨oc4, od4, .func fd4, osl4⟩) rfl (nmG G S2.F.keep (mg_44 G) ⟨rfl, ?_⟩ rfl rfl rfl (by decide)))
      refine C_args_cons (wpC_of (A_Subscript (ldLoc S2.F mw₁ (ldC S2.C (c := L + 1 + 1 + 1 + 1 + 1) rfl (if_pos rfl) ?_))))
      refine item_list (isList_keeps (isList_keeps hw st2) S2.K) (by omega) (by omega) (by rw [Int.toNat_natCast]; exact hwi) ?_
      refine C_args_nil (C_kws_nil ⟨S2.F.keep _ _ (G.X _ _ h44), ?_⟩)
      refine wpC_mono (cv_law (s := { s with heap := h, toks := tk }) G rfl rfl S2 (n := (nw d).1) (k := (nw d).2) (by show d.1 - 3 < 10000; omega) (by show d.2 < 7; omega) hnt) (fun v s' q => ?_) fun _ _ q => q
      obtain ⟨u, h', tk', rfl, rfl, S', st, rd⟩ := q
      refine Ls.stL (s := { s with heap := h', toks := tk' }) S' rfl rfl fun h'' S3 => ?_
      exact ⟨rfl, h'', _, _, u, rfl, S3, st, rd⟩
    rintro s' ⟨h3, tk3, hf3, u3, rfl, S3, st3, rd3⟩
    have k3 : hf.StaysIn hf3 := fun x o e => st3 _ _ (st2 _ _ e)
    refine C_next (Rn h₀ L hf3 (fun (z : Str) => if z = "told" then some (.ref u3) else m₁ z) (fun (z : Str) => if z = "k" then some (.int (i : Int) t) else cm₁ z) "below" (cnt (fun e => decide (code e < code d)) oD) s) ?_ ?_
    · show wpC _ _ (exec (Stmt.Assign [PySem.Expr.Name _ _] (PySem.Expr.Call (PySem.Expr.Name _ _) [PySem.Expr.ListComp (PySem.Expr.Name _ _) [⟨PySem.Expr.Name _ _, PySem.Expr.Name _ _, [PySem.Expr.Compare (PySem.Expr.Subscript (PySem.Expr.Name _ _) (PySem.Expr.Name _ _) _) _ [PySem.Expr.Subscript (PySem.Expr.Name _ _) (PySem.Expr.Subscript (PySem.Expr.Name _ _) (PySem.Expr.Name _ _) _) _] _], 0⟩] (Scope.mk _ _ _ _ _) _] _ _) _) _) _ _ _
      refine C_Assign_Name (hs := rfl) (C_Call_b (T := "len") (nmB G S3.F.keep (mgn_len G) (by decide +kernel) (by decide) ⟨rfl, ?_⟩ rfl rfl rfl rfl (by decide)))
      refine C_args_cons ?_
      refine LC_eval (h₀ := h₀) (L := L) (cs := lawCs L) (m := (fun (z : Str) => if z = "told" then some (.ref u3) else m₁ z)) (cm := fun (z : Str) => if z = "k" then some (.int (i : Int) t) else cm₁ z) (led := []) (cl := [(("ranks" : Str), L + 1 + 1), (("old" : Str), L + 1 + 1 + 1 + 1 + 1 + 1), (("k" : Str), L + 1 + 1 + 1 + 1 + 1)]) rfl ?clos (by decide) rfl ?nm ?_
      case clos => exact rfl
      case nm => decide
      refine wpC_of (ldC S3.C (c := L + 1 + 1 + 1 + 1 + 1 + 1) rfl co₁ (.inl ?_))
      refine ⟨aO, ov, hf3, h3, tk3, _, fun j ys hf' => hf3.StaysIn hf' ∧ ys.length = cnt (fun e => decide (code e < code d)) (oD.take j), rfl, rfl, S3, isList_keeps ho k3, by omega, ⟨fun _ _ e => e, rfl⟩, fun I C => asg_name rfl rfl, ?_, ?_⟩
      · rintro j v ys hfx g tkx I' oI' C oC D' m₂ hvj hj _ ⟨hfx1, hys⟩ Sx hn hpm
        obtain ⟨e, he, rel', ur', rfl, ht'⟩ := hO.at (i := j) (a := v) (by simpa using hvj)
        obtain ⟨e1, e2, e3, e4⟩ := ok.ok e (List.mem_of_getElem? he)
        obtain ⟨rvj, hrj, rdj⟩ := hd' e e4 rel' ht'
        have hfg : hf.StaysIn g := fun x o q => Sx.K _ _ (hfx1 _ _ (k3 _ _ q))
        refine T_one (wpC_of (wpAny_isTrue_Compare1 ?_))
        refine A_Subscript (nmC rfl (Sx.rdC (x := "ranks") (c := L + 1 + 1) rfl cr₁) (nmL hn hpm ?_ rfl rfl (by decide)) rfl rfl (by decide))
        refine item_dict (mapOf_keeps hm hfg) hrj ?_
        refine A_Subscript (nmC rfl (Sx.rdC (x := "ranks") (c := L + 1 + 1) rfl cr₁) (A_Subscript (nmC rfl (Sx.rdC (x := "old") (c := L + 1 + 1 + 1 + 1 + 1 + 1) rfl co₁) (nmC rfl (Sx.rdC (x := "k") (c := L + 1 + 1 + 1 + 1 + 1) rfl (if_pos rfl)) ?_ rfl rfl (by decide)) rfl rfl (by decide))) rfl rfl (by decide))
        refine item_list (isList_keeps ho hfg) (by omega) (by omega) (by rw [Int.toNat_natCast]; exact hvi) ?_
        refine item_dict (mapOf_keeps hm hfg) hrk ?_
        refine LvOk.opAt (L := Lv.zero.tuple.list) LvOk.zero.tuple.list (.inl rfl) (LvOk.zero.tuple.list.keeps rdj hfg) (LvOk.zero.tuple.list.keeps rdk hfg) (al_units _ (n := Lv.zero.tuple.list.dep) (by decide)) (pr_ok (d := e) (d' := d) (by omega) (by omega)) prog w _ _ (wpAny_truthy_bool ?_)
        rw [show Lv.zero.tuple.list.cmp .Lt ([.num 100, .num e.1] :: flp e.2) ([.num 100, .num d.1] :: flp d.2) = decide (code e < code d) from pr_lt (d := e) (d' := d) (by omega) (by omega)]
        by_cases hc : code e < code d
        · rw [if_pos (decide_eq_true hc)]
          refine wpC_of (nmL hn hpm ?_ rfl rfl (by decide))
          refine ⟨g, _, _, rfl, fun _ _ e => e, ⟨hfx1, ?_⟩, Sx⟩
          rw [cnt_take he, List.length_append, hys, if_pos (decide_eq_true hc)]
          rfl
        · rw [if_neg (by simpa using hc)]
          refine ⟨g, _, _, rfl, fun _ _ e => e, ⟨hfx1, ?_⟩, Sx⟩
          rw [cnt_take he, hys, if_neg (by simpa using hc)]
          rfl
      · rintro D' g tkx ys hfx _ ⟨hfx1, hys⟩ Sx
        rw [hlo, List.take_length] at hys
        have hyl : ys.length ≤ 30 := by
          rw [hys]
          exact Nat.le_trans (List.length_filter_le _ _) h30
        have hD : g.IsList D' (List.toArray ys) := ⟨_, (Sx.N (D', _) List.mem_cons_self).1, rfl, ys.length, rfl⟩
        refine C_args_nil (wpC_of (call_len_list (s := { s with heap := g, toks := _ }) hD (by simp; omega) ?_))
        refine Ls.stL (s := { s with heap := g, toks := _ }) Sx.drop1 rfl rfl fun h'' S' => ?_
        rw [List.size_toArray, hys] at S'
        exact ⟨rfl, h'', _, _, _, rfl, S', hfx1⟩
    rintro s' ⟨h4, tk4, hf4, u4, rfl, S4, st4⟩
    have k4 : hf.StaysIn hf4 := fun x o e => st4 _ _ (k3 _ _ e)
    refine C_next (Rn h₀ L hf4 (fun (z : Str) => if z = "below" then some (.int (cnt (fun e => decide (code e < code d)) oD : Int) u4) else (fun (z : Str) => if z = "told" then some (.ref u3) else m₁ z) z) (fun (z : Str) => if z = "k" then some (.int (i : Int) t) else cm₁ z) "within" (cnt (fun e => decide (code e ≤ code d)) oD) s) ?_ ?_
    · show wpC _ _ (exec (Stmt.Assign [PySem.Expr.Name _ _] (PySem.Expr.Call (PySem.Expr.Name _ _) [PySem.Expr.ListComp (PySem.Expr.Name _ _) [⟨PySem.Expr.Name _ _, PySem.Expr.Name _ _, [PySem.Expr.Compare (PySem.Expr.Subscript (PySem.Expr.Name _ _) (PySem.Expr.Name _ _) _) _ [PySem.Expr.Subscript (PySem.Expr.Name _ _) (PySem.Expr.Subscript (PySem.Expr.Name _ _) (PySem.Expr.Name _ _) _) _] _], 0⟩] (Scope.mk _ _ _ _ _) _] _ _) _) _) _ _ _
      refine C_Assign_Name (hs := rfl) (C_Call_b (T := "len") (nmB G S4.F.keep (mgn_len G) (by decide +kernel) (by decide) ⟨rfl, ?_⟩ rfl rfl rfl rfl (by decide)))
      refine C_args_cons ?_
      refine LC_eval (h₀ := h₀) (L := L) (cs := lawCs L) (m := (fun (z : Str) => if z = "below" then some (.int (cnt (fun e => decide (code e < code d)) oD : Int) u4) else (fun (z : Str) => if z = "told" then some (.ref u3) else m₁ z) z)) (cm := fun (z : Str) => if z = "k" then some (.int (i : Int) t) else cm₁ z) (led := []) (cl := [(("ranks" : Str), L + 1 + 1), (("old" : Str), L + 1 + 1 + 1 + 1 + 1 + 1), (("k" : Str), L + 1 + 1 + 1 + 1 + 1)]) rfl ?clos (by decide) rfl ?nm ?_
      case clos => exact rfl
      case nm => decide
      refine wpC_of (ldC S4.C (c := L + 1 + 1 + 1 + 1 + 1 + 1) rfl co₁ (.inl ?_))
      refine ⟨aO, ov, hf4, h4, tk4, _, fun j ys hf' => hf4.StaysIn hf' ∧ ys.length = cnt (fun e => decide (code e ≤ code d)) (oD.take j), rfl, rfl, S4, isList_keeps ho k4, by omega, ⟨fun _ _ e => e, rfl⟩, fun I C => asg_name rfl rfl, ?_, ?_⟩
      · rintro j v ys hfx g tkx I' oI' C oC D' m₂ hvj hj _ ⟨hfx1, hys⟩ Sx hn hpm
        obtain ⟨e, he, rel', ur', rfl, ht'⟩ := hO.at (i := j) (a := v) (by simpa using hvj)
        obtain ⟨e1, e2, e3, e4⟩ := ok.ok e (List.mem_of_getElem? he)
        obtain ⟨rvj, hrj, rdj⟩ := hd' e e4 rel' ht'
        have hfg : hf.StaysIn g := fun x o q => Sx.K _ _ (hfx1 _ _ (k4 _ _ q))
        refine T_one (wpC_of (wpAny_isTrue_Compare1 ?_))
        refine A_Subscript (nmC rfl (Sx.rdC (x := "ranks") (c := L + 1 + 1) rfl cr₁) (nmL hn hpm ?_ rfl rfl (by decide)) rfl rfl (by decide))
        refine item_dict (mapOf_keeps hm hfg) hrj ?_
        refine A_Subscript (nmC rfl (Sx.rdC (x := "ranks") (c := L + 1 + 1) rfl cr₁) (A_Subscript (nmC rfl (Sx.rdC (x := "old") (c := L + 1 + 1 + 1 + 1 + 1 + 1) rfl co₁) (nmC rfl (Sx.rdC (x := "k") (c := L + 1 + 1 + 1 + 1 + 1) rfl (if_pos rfl)) ?_ rfl rfl (by decide)) rfl rfl (by decide))) rfl rfl (by decide))
        refine item_list (isList_keeps ho hfg) (by omega) (by omega) (by rw [Int.toNat_natCast]; exact hvi) ?_
        refine item_dict (mapOf_keeps hm hfg) hrk ?_
        refine LvOk.opAt (L := Lv.zero.tuple.list) LvOk.zero.tuple.list (.inr rfl) (LvOk.zero.tuple.list.keeps rdj hfg) (LvOk.zero.tuple.list.keeps rdk hfg) (al_units _ (n := Lv.zero.tuple.list.dep) (by decide)) (pr_ok (d := e) (d' := d) (by omega) (by omega)) prog w _ _ (wpAny_truthy_bool ?_)
        rw [show Lv.zero.tuple.list.cmp .LtE ([.num 100, .num e.1] :: flp e.2) ([.num 100, .num d.1] :: flp d.2) = decide (code e ≤ code d) from pr_le (d := e) (d' := d) (by omega) (by omega)]
        by_cases hc : code e ≤ code d
        · rw [if_pos (decide_eq_true hc)]
          refine wpC_of (nmL hn hpm ?_ rfl rfl (by decide))
          refine ⟨g, _, _, rfl, fun _ _ e => e, ⟨hfx1, ?_⟩, Sx⟩
          rw [cnt_take he, List.length_append, hys, if_pos (decide_eq_true hc)]
          rfl
        · rw [if_neg (by simpa using hc)]
          refine ⟨g, _, _, rfl, fun _ _ e => e, ⟨hfx1, ?_⟩, Sx⟩
          rw [cnt_take he, hys, if_neg (by simpa using hc)]
          rfl
      · rintro D' g tkx ys hfx _ ⟨hfx1, hys⟩ Sx
        rw [hlo, List.take_length] at hys
        have hyl : ys.length ≤ 30 := by
          rw [hys]
          exact Nat.le_trans (List.length_filter_le _ _) h30
        have hD : g.IsList D' (List.toArray ys) := ⟨_, (Sx.N (D', _) List.mem_cons_self).1, rfl, ys.length, rfl⟩
        refine C_args_nil (wpC_of (call_len_list (s := { s with heap := g, toks := _ }) hD (by simp; omega) ?_))
        refine Ls.stL (s := { s with heap := g, toks := _ }) Sx.drop1 rfl rfl fun h'' S' => ?_
        rw [List.size_toArray, hys] at S'
        exact ⟨rfl, h'', _, _, _, rfl, S', hfx1⟩
    rintro s' ⟨h5, tk5, hf5, u5, rfl, S5, st5⟩
    have k5 : hf.StaysIn hf5 := fun x o e => st5 _ _ (k4 _ _ e)
    have rd5 : Lv.zero.list.rd hf5 (.ref u3) (cvOf (nw d).1 (nw d).2) := LvOk.zero.list.keeps rd3 fun x o e => st5 _ _ (st4 _ _ e)
    obtain ⟨b1, b2⟩ := cut_cnt (oD := oD) (fun e => decide (code e < code d)) (fun x y hxy hy => by
      unfold CodeLe at hxy
      rw [decide_eq_true_eq] at hy ⊢
      omega) ok.inc
    obtain ⟨w1, w2⟩ := cut_cnt (oD := oD) (fun e => decide (code e ≤ code d)) (fun x y hxy hy => by
      unfold CodeLe at hxy
      rw [decide_eq_true_eq] at hy ⊢
      omega) ok.inc
    refine C_next (Rl h₀ L hf5 (fun (z : Str) => if z = "within" then some (.int (cnt (fun e => decide (code e ≤ code d)) oD : Int) u5) else (fun (z : Str) => if z = "below" then some (.int (cnt (fun e => decide (code e < code d)) oD : Int) u4) else (fun (z : Str) => if z = "told" then some (.ref u3) else m₁ z) z) z) (fun (z : Str) => if z = "k" then some (.int (i : Int) t) else cm₁ z) s) ?_ ?_
    · show wpC _ _ (exec (Stmt.If (PySem.Expr.Compare (PySem.Expr.Call (PySem.Expr.Name _ _) [PySem.Expr.Name _ _, PySem.Expr.Name _ _] [⟨_, PySem.Expr.Name _ _, _⟩] _) _ [PySem.Expr.Name _ _] _) _ [] _) _) _ _ _
      refine if_ne (C_Call_fn (f := 78) (o := ⟨oc7, od7, .func fd7, osl7⟩) rfl (nmG G S5.F.keep (mg_78 G) ⟨rfl, ?_⟩ rfl rfl rfl (by decide))) rfl
      refine C_args_cons (wpC_of (ldLoc S5.F mw₁ ?_))
      refine C_args_cons (wpC_of (ldLoc S5.F rfl ?_))
      refine C_args_nil (C_kws_cons (wpC_of (nmG G S5.F.keep (mg_44 G) ?_ rfl rfl rfl (by decide))))
      refine C_kws_nil ⟨S5.F.keep _ _ (G.X _ _ h78), ?_⟩
      refine wpC_mono (bl_law (s := { s with heap := h5, toks := tk5 }) (c := cnt (fun e => decide (code e < code d)) oD) (key44 prog w mg mb) h44 G rfl rfl S5 (isList_keeps hw k5) rd5 (by omega) (by omega) fun j hj => ?_) (fun v s' q => ?_) fun _ _ q => q
      · obtain ⟨e', he', nm', un', hnv', hnt'⟩ := hW.get j hj
        obtain ⟨e, he, rfl⟩ := map_at he'
        obtain ⟨e1, e2, e3, e4⟩ := ok.ok e (List.mem_of_getElem? he)
        have he3 : 3 ≤ e.1 := by unfold Sol at e1; omega
        refine ⟨nm', un', cvOf (nw e).1 (nw e).2, by rw [List.getElem?_eq_getElem hj, hnv'], ⟨(nw e).1, (nw e).2, by show e.1 - 3 < 10000; omega, by show e.2 < 7; omega, hnt', rfl⟩, cv_ok (d := nw e) (d' := nw d) (by show e.2 < 7; omega) (by show d.2 < 7; omega), ?_⟩
        rw [cv_lt (d := nw e) (d' := nw d) (by show e.2 < 7; omega) (by show d.2 < 7; omega), decide_eq_true_eq, code_nw he3 hn3, ← b2 j e he, decide_eq_true_eq]
      · obtain ⟨u', h', tk', rfl, rfl, S6⟩ := q
        exact wpC_of (ldLoc S6.F rfl ⟨ne_int1 _ _ _, rfl, h', tk', rfl, S6⟩)
    rintro s' ⟨h6, tk6, rfl, S6⟩
    refine C_next (Rl h₀ L hf5 (fun (z : Str) => if z = "within" then some (.int (cnt (fun e => decide (code e ≤ code d)) oD : Int) u5) else (fun (z : Str) => if z = "below" then some (.int (cnt (fun e => decide (code e < code d)) oD : Int) u4) else (fun (z : Str) => if z = "told" then some (.ref u3) else m₁ z) z) z) (fun (z : Str) => if z = "k" then some (.int (i : Int) t) else cm₁ z) s) ?_ ?_
    · show wpC _ _ (exec (Stmt.If (PySem.Expr.Compare (PySem.Expr.Call (PySem.Expr.Name _ _) [PySem.Expr.Name _ _, PySem.Expr.Name _ _] [⟨_, PySem.Expr.Name _ _, _⟩] _) _ [PySem.Expr.Name _ _] _) _ [] _) _) _ _ _
      refine if_ne (C_Call_fn (f := 69) (o := ⟨oc6, od6, .func fd6, osl6⟩) rfl (nmG G S6.F.keep (mg_69 G) ⟨rfl, ?_⟩ rfl rfl rfl (by decide))) rfl
      refine C_args_cons (wpC_of (ldC S6.C (c := L + 1 + 1 + 1 + 1 + 1 + 1) rfl co₁ ?_))
      refine C_args_cons (wpC_of (ldLoc S6.F rfl ?_))
      refine C_args_nil (C_kws_cons (wpC_of (nmG G S6.F.keep (mg_92 G) ?_ rfl rfl rfl (by decide))))
      refine C_kws_nil ⟨S6.F.keep _ _ (G.X _ _ h69), ?_⟩
      refine wpC_mono (br_law (s := { s with heap := h6, toks := tk6 }) (c := cnt (fun e => decide (code e ≤ code d)) oD) (key92 prog w mg mb) h92 G rfl rfl S6 (isList_keeps ho k5) rd5 (by omega) (by omega) fun j hj => ?_) (fun v s' q => ?_) fun _ _ q => q
      · obtain ⟨e, he, rel', ur', hv', ht'⟩ := hO.get j hj
        obtain ⟨e1, e2, e3, e4⟩ := ok.ok e (List.mem_of_getElem? he)
        have he3 : 3 ≤ e.1 := by unfold Sol at e1; omega
        obtain ⟨r1, r2, r3⟩ := R.dok.2.2 e e4
        refine ⟨rel', ur', cvOf (nw e).1 (nw e).2, by rw [List.getElem?_eq_getElem hj, hv'], ⟨e.1, e.2, by omega, he3, e3, ht', ?_, rfl⟩, cv_ok (d := nw d) (d' := nw e) (by show d.2 < 7; omega) (by show e.2 < 7; omega), ?_⟩
        · rw [show rel'.cps.toList = txt e from ht']
          exact fun q => (txt_lt5 r1 r2).mp q e1
        · rw [cv_lt (d := nw d) (d' := nw e) (by show d.2 < 7; omega) (by show e.2 < 7; omega), decide_eq_true_eq, code_nw hn3 he3]
          have := w2 j e he
          rw [decide_eq_true_eq] at this
          omega
      · obtain ⟨u', h', tk', rfl, rfl, S7⟩ := q
        exact wpC_of (ldLoc S7.F rfl ⟨ne_int1 _ _ _, rfl, h', tk', rfl, S7⟩)
    rintro s' ⟨h7, tk7, rfl, S7⟩
    have S8 := S₁.thaw S7 fun x o e => st5 _ _ (st4 _ _ (st3 _ _ e))
    exact C_execs_nil ⟨rfl, h7, tk7, hf₁, _, _, [], rfl, S8, fun _ _ e => e, rfl, mw₁, co₁, cr₁⟩
  · rintro hf₁ h tk m₁ cm₁ led₁ hff ⟨rfl, mw₁, co₁, cr₁⟩ S₁
    exact ⟨rfl, h, tk, hf₁, m₁, cm₁, rfl, S₁⟩
end Lw16

section Chain
open TI LCg PySem.SeqAt
theorem row_ok {D : List (Nat × Nat)} {rI : List Nat} (hD : Dok D) (hp : rI.Perm (List.range D.length)) (hs : rI.Pairwise fun x y => rk D x < rk D y) : RowOk (rI.map fun j => D.getD j (0, 0)) := by
  have hl : rI.length = D.length := by rw [hp.length_eq, List.length_range]
  have hlt : ∀ {j}, j ∈ rI → j < D.length := fun {j} hj => List.mem_range.mp (hp.mem_iff.mp hj)
  have hm : ∀ {d}, d ∈ (rI.map fun j => D.getD j (0, 0)) → d ∈ D := fun {d} hd => by
    obtain ⟨j, hj, rfl⟩ := List.mem_map.mp hd
    rw [List.getD_eq_getElem?_getD, List.getElem?_eq_getElem (hlt hj)]
    exact List.getElem_mem _
  refine ⟨⟨by rw [List.length_map, hl]; exact hD.1, by rw [List.length_map, hl]; exact hD.2.1, fun d hd => hD.2.2 d (hm hd)⟩, ?_⟩
  rw [List.pairwise_map]
  have hz := hD.2.1
  refine List.Pairwise.imp_of_mem ?_ hs
  intro x y hx hy h
  have h1 := hlt hx
  have h2 := hlt hy
  unfold rk at h
  unfold CodeLe
  omega
theorem row_sub {D : List (Nat × Nat)} {rI : List Nat} (hp : rI.Perm (List.range D.length)) : ∀ d ∈ (rI.map fun j => D.getD j (0, 0)), d ∈ D := fun d hd => by
  obtain ⟨j, hj, rfl⟩ := List.mem_map.mp hd
  rw [List.getD_eq_getElem?_getD, List.getElem?_eq_getElem (List.mem_range.mp (hp.mem_iff.mp hj))]
  exact List.getElem_mem _
theorem DictOk.sub {f : Str → Option Value} {D E : List (Nat × Nat)} {P : Value → Nat × Nat → Prop} (h : DictOk f D P) (hs : ∀ d ∈ E, d ∈ D) : DictOk f E P := fun d hd => h d (hs d hd)
theorem DictOk.imp {f : Str → Option Value} {D : List (Nat × Nat)} {P P' : Value → Nat × Nat → Prop} (h : DictOk f D P) (hs : ∀ v d, P v d → P' v d) : DictOk f D P' := fun d hd t ht => let ⟨v, a, b⟩ := h d hd t ht; ⟨v, a, hs v d b⟩
theorem dok_of {hf : Heap} {us : List Value} {D : List (Nat × Nat)} (h : All2 (Sun1 hf) us D) (h6 : 6 ≤ us.length) (h10 : us.length ≤ 10) : Dok D := by
  have hl := h.len
  refine ⟨by omega, by omega, fun d hd => ?_⟩
  obtain ⟨j, hj, rfl⟩ := List.mem_iff_getElem.mp hd
  obtain ⟨e, he, _, q⟩ := h.get j (by omega)
  rw [List.getElem?_eq_getElem hj] at he
  obtain rfl := Option.some.inj he
  exact q
noncomputable def R17 (h₀ : Heap) (L : Addr) (s : Shared) (v : Value) (s' : Shared) : Prop :=
  ∃ h tk hf m cm, v = .bool true ∧ s' = { s with heap := h, toks := tk } ∧ Ls h₀ L (lawCs L) hf h m cm []
theorem law_17 {prog : Program} {w : World} {s : Shared} {h₀ hf : Heap} {L fa : Addr} {cd : Value} {m cm : Str → Option Value} (S : Ls h₀ L (lawCs L) hf s.heap m cm []) :
    wpC (model prog w) (AL L fa cd) (exec (stOf 13 16) (lawEnv L fa cd)) (RetR (R17 h₀ L s)) no s := by
  show wpC _ (Around.deeper _ (envOfC _ (Scope.mk _ _ _ _ _) _ _ _)) (exec (Stmt.Return (some (PySem.Expr.Constant _ _ _)) _) (envOfC _ (Scope.mk _ _ _ _ _) _ _ _)) _ _ _
  exact C_Return_some (wpC_of (wpAny_Constant_bool ⟨_, rfl, s.heap, s.toks, hf, m, cm, rfl, rfl, S⟩))
theorem law_body {prog : Program} {w : World} {s : Shared} {mg mb : Str → Option Value} {h₀ hf : Heap} {L fa sl : Addr} {cd : Value} {m cm : Str → Option Value} {vs : List Value} {ns : List Int}
    (G : Gr w mg mb h₀) (S : Ls h₀ L (lawCs L) hf s.heap m cm []) (ms : m "script" = some (.ref sl)) (hl : h₀.IsList sl (List.toArray vs)) (hi : IntsAre vs ns) (hz : vs.length ≤ 63) :
    wpC (model prog w) (AL L fa cd) (execs [stOf 13 0, stOf 13 1, stOf 13 2, stOf 13 3, stOf 13 4, stOf 13 5, stOf 13 6, stOf 13 7, stOf 13 8, stOf 13 9, stOf 13 10, stOf 13 11, stOf 13 12, stOf 13 13, stOf 13 14, stOf 13 15, stOf 13 16] (lawEnv L fa cd)) (RetR (R17 h₀ L s)) no s := by
  refine C_next _ (law_1 G S ms hl hi hz) ?_
  rintro s' ⟨h1, tk1, hf1, m1, a1, us, D, rfl, S1, st1, ms1, hus, z6, z10, all1⟩
  have hD := dok_of all1 z6 z10
  refine C_next _ (law_2 (s := { s with heap := h1, toks := tk1 }) S1 ms1 hus all1 z10) ?_
  rintro s' ⟨h2, tk2, hf2, cm2, aT, vsT, rfl, S2, st2, ct, hlT, hT⟩
  have all2 : All2 (Sun1 hf2) us D := all1.mono fun x d q => ⟨q.1.keeps st2, q.2⟩
  refine C_next _ (law_3 (s := { s with heap := h2, toks := tk2 }) S2 ms1 (isList_keeps hus st2) all2 z10) ?_
  rintro s' ⟨h3, tk3, hf3, aR, fR, rfl, S3, st3, mR, dR⟩
  have all3 : All2 (Sun1 hf3) us D := all2.mono fun x d q => ⟨q.1.keeps st3, q.2⟩
  refine C_next _ (law_4 (s := { s with heap := h3, toks := tk3 }) S3 ms1 (isList_keeps (isList_keeps hus st2) st3) all3 z10) ?_
  rintro s' ⟨h4, tk4, hf4, aN, fN, rfl, S4, st4, mN, dN⟩
  refine C_next _ (law_5 (s := { s with heap := h4, toks := tk4 }) S4) ?_
  rintro s' ⟨h5, tk5, a5, b5, m5, rfl, S5, mn5⟩
  have hl5 := isList_keeps (isList_keeps hlT st3) st4
  refine C_next _ (law_6 (s := { s with heap := h5, toks := tk5 }) G S5 hD mn5 (if_pos rfl) ct hl5 hT) ?_
  rintro s' ⟨h6, tk6, hf6, m6, nv, rv, nD, rI, rfl, S6, st6, mn6, hnl, hrl, hN, pN, sN, hR, pR, sR⟩
  have hl6 := isList_keeps hl5 st6
  refine C_next _ (law_7 (s := { s with heap := h6, toks := tk6 }) G S6 hD mn6 ct hl6 hT hnl hN pN sN) ?_
  rintro s' ⟨h7, tk7, rfl, S7⟩
  have mR6 := mapOf_keeps (mapOf_keeps mR st4) st6
  have dR6 : DictOk fR D (RankV hf6) := dR.imp fun v d q => LvOk.zero.tuple.list.keeps q fun b o e => st6 _ _ (st4 _ _ e)
  refine C_next _ (law_8 (s := { s with heap := h7, toks := tk7 }) G S7 hD (if_pos rfl) ct (aR := aR) rfl hl6 hT hrl hR pR sR mR6 dR6) ?_
  rintro s' ⟨h8, tk8, rfl, S8⟩
  have hD10 := hD.2.1
  refine C_next _ (law_9 (s := { s with heap := h8, toks := tk8 }) G S8 mn6 hnl hN sN (by rw [pN.length_eq]; omega)) ?_
  rintro s' ⟨h9, tk9, m9, c9, u9, rfl, S9, mc9, mo9, hc9⟩
  have mN6 := mapOf_keeps mN st6
  refine C_next _ (law_10 (s := { s with heap := h9, toks := tk9 }) G S9 hD ((mo9 _ (by decide)).trans mn6) mc9 (aN := aN) rfl hnl hN pN hc9 mN6 dN) ?_
  rintro s' ⟨h10, tk10, hf10, m10, cm10, rfl, S10, st10, mo10, co10⟩
  have cr10 : cm10 "row" = some (.ref b5) := (co10 _ (by decide)).trans (if_pos rfl)
  have cn10 : cm10 "names" = some (.ref aN) := (co10 _ (by decide)).trans rfl
  have ck10 : cm10 "ranks" = some (.ref aR) := (co10 _ (by decide)).trans rfl
  refine C_next _ (law_11 (s := { s with heap := h10, toks := tk10 }) S10) ?_
  rintro s' ⟨h11, tk11, a11, m11, rfl, S11, ms11⟩
  have RO := row_ok hD pR sR
  have sub := row_sub (D := D) pR
  have hRt := row_txt hR
  have hr10 := isList_keeps hrl st10
  refine C_next _ (law_12 (s := { s with heap := h11, toks := tk11 }) G S11 RO hr10 hRt cr10 ms11) ?_
  rintro s' ⟨h12, tk12, hf12, m12, sv, ns', rfl, S12, st12, ms12, hsl, hsv, hsz, hsi, hns⟩
  have hr12 := isList_keeps hr10 st12
  refine C_next _ (law_13 (s := { s with heap := h12, toks := tk12 }) G S12 RO hr12 hRt cr10 ms12 hsl hsv hsi hns) ?_
  rintro s' ⟨h13, tk13, rfl, S13⟩
  have mN12 := mapOf_keeps (mapOf_keeps mN6 st10) st12
  have dNr := dN.sub sub
  refine C_next _ (law_14 (s := { s with heap := h13, toks := tk13 }) S13 RO hr12 hRt cr10 cn10 mN12 dNr ms12 hsl hsv hsz hsi hns) ?_
  rintro s' ⟨h14, tk14, hf14, aO, ov, oD, rfl, S14, st14, hO, hOv, ok⟩
  refine C_next _ (law_15 (s := { s with heap := h14, toks := tk14 }) S14 (if_pos rfl) hO hOv ok (aN := aN) cn10 (mapOf_keeps mN12 st14) dNr) ?_
  rintro s' ⟨h15, tk15, hf15, m15, aW, wv, rfl, S15, st15, mw, hw, hW⟩
  have k15 : hf6.StaysIn hf15 := fun b o e => st15 _ _ (st14 _ _ (st12 _ _ (st10 _ _ e)))
  refine C_next _ (law_16 (s := { s with heap := h15, toks := tk15 }) G S15 RO (if_pos rfl) (isList_keeps hO st15) hOv ok (aR := aR) ck10 (mapOf_keeps mR6 k15) ((dR6.sub sub).imp fun v d q => LvOk.zero.tuple.list.keeps q k15) mw hw hW) ?_
  rintro s' ⟨h16, tk16, hf16, m16, cm16, rfl, S16⟩
  refine C_last _ (law_17 (s := { s with heap := h16, toks := tk16 }) S16) fun v s' q => ?_
  obtain ⟨h, tk, hf', m', cm', rfl, rfl, S17⟩ := q
  exact ⟨_, rfl, h, tk, hf', m', cm', rfl, rfl, S17⟩
end Chain

section Ent
open TI
variable {prog : Program} {w : World} {A : Around} {E : Value → Shared → Prop} {s : Shared}
/-- a def with cells is called, under the caller -/
theorem call_cellsC {Q : Value → Shared → Prop} {name : Str} {params : Arguments} {body : List Stmt} {scope : Scope} {pm cd doc : Value} {a : Addr} {o : Obj} {args : List Value} {binds : List (Str × Value)}
    (hroom : A.depth < recursionLimit) (ho : s.heap.get? a = some o) (hdata : o.data = .func (Calls.docDef name params body scope pm cd doc)) (hlim : s.heap.NoLimit) (hcd : s.heap.CodeRec cd name)
    (hbind : bindArgs (Calls.docDef name params body scope pm cd doc) ⟨args, []⟩ = pure binds)
    (hkind : ∀ x ∈ binds, scope.names.lookup x.1 = some .local ∨ (scope.names.lookup x.1 = some .cell ∧ ((cellsFrom (s.heap.objs.size + 1) scope.names []).lookup x.1).isSome = true))
    (hco : scope.isCoroutine = false) (hgen : scope.isGenerator = false) (hk : scope.kind = .function)
    (h : ∀ h₁ tk, Fr s.heap s.heap.objs.size h₁ (bindL (envOfC name scope s.heap.objs.size a cd).kindOf binds fun _ => none) →
      Cl s.heap.objs.size (cellsFrom (s.heap.objs.size + 1) scope.names []) h₁ (bindC (envOfC name scope s.heap.objs.size a cd).kindOf binds fun _ => none) →
      wpC (model prog w) (A.deeper (envOfC name scope s.heap.objs.size a cd)) (execs body (envOfC name scope s.heap.objs.size a cd))
        (fun f s' => Q (match f with | .ret v => v | _ => .none) s') (fun _ _ => False) { s with heap := h₁, toks := tk }) :
    wpC (model prog w) A (PySem.call (.ref a) args) Q E s := by
  refine wpC_call (codeC_of_tree ?_)
  show wpC _ A.in1 (callAny (.ref a) ⟨args, []⟩) _ _ s
  simp only [callAny]
  refine wpC_then (wpAny_load ho ?_)
  obtain ⟨c, oc, vs, tq, hc, hoc, hdc, hq⟩ := hcd
  subst hc
  rw [hdata]
  simp only [callFunction, Calls.docDef, hco, hgen]
  refine wpC_then (m := field (.ref c) 1) (wpAny_field hoc hdc hq ?_)
  refine wpC_then (wpAny_pure ?_)
  refine wpC_then (wpAny_of_eq hbind ?_)
  refine wpC_then (wpAny_newFunctionEnv_cells hk hkind fun env he s' x => ?_)
  subst he
  refine wpC_then (wpAny_enterFrame (hlim.keeps x.toInCall.keep) hroom ?_)
  obtain ⟨h₁, tk, rfl, _⟩ := x.done
  exact wpC_pure ⟨rfl, codeC_func (h h₁ tk ⟨x.toInCall.ns, x.toInCall.keep, x.toInCall.fresh⟩ ⟨x.cell, x.apart, x.above⟩)⟩
noncomputable def fnPar : Stmt → Arguments
  | .FunctionDef _ p _ _ _ _ _ _ _ _ => p
  | _ => { posonlyargs := [], args := [], vararg := none, kwonlyargs := [], kw_defaults := [], kwarg := none, defaults := [] }

theorem e_hb : fnBody (topS 13) = [stOf 13 0, stOf 13 1, stOf 13 2, stOf 13 3, stOf 13 4, stOf 13 5, stOf 13 6, stOf 13 7, stOf 13 8, stOf 13 9, stOf 13 10, stOf 13 11, stOf 13 12, stOf 13 13, stOf 13 14, stOf 13 15, stOf 13 16] := rfl
theorem e_hbind {sl : Addr} {pm cd doc : Value} : bindArgs (Calls.docDef "law" (fnPar (topS 13)) (fnBody (topS 13)) (fnScope (topS 13)) pm cd doc) ⟨[.ref sl], []⟩ = pure [(("script" : Str), Value.ref sl)] := rfl
theorem e_kind {sl : Addr} {n : Nat} : ∀ x ∈ [(("script" : Str), Value.ref sl)], (fnScope (topS 13)).names.lookup x.1 = some .local ∨ ((fnScope (topS 13)).names.lookup x.1 = some .cell ∧ ((cellsFrom n (fnScope (topS 13)).names []).lookup x.1).isSome = true) := fun x hx => by
    rw [List.mem_singleton.mp hx]
    exact .inl rfl
theorem e_U {L : Addr} : ((lawCs L).map (·.1)).Nodup := by
    rw [lawCs_eq]
    show [("old" : Str), "k", "row", "names", "ranks", "texts"].Nodup
    decide
theorem e_ms {L fa sl : Addr} {cd : Value} : bindL (envOfC "law" (fnScope (topS 13)) L fa cd).kindOf [(("script" : Str), Value.ref sl)] (fun _ => none) "script" = some (.ref sl) := rfl
theorem e_co : (fnScope (topS 13)).isCoroutine = false := rfl
theorem e_ge : (fnScope (topS 13)).isGenerator = false := rfl
theorem e_k : (fnScope (topS 13)).kind = .function := rfl
theorem e_room : callerA.depth < recursionLimit := by decide

theorem e_S {h₀ h₁ : Heap} {L : Addr} {m cm : Str → Option Value} (hz : L = h₀.objs.size) (F : Fr h₀ L h₁ m) (C : Cl L (lawCs L) h₁ cm) : Ls h₀ L (lawCs L) h₀ h₁ m cm [] :=
  ⟨F, C, e_U, F.keep, fun _ h => (nomatch h), List.Pairwise.nil, fun _ _ e => e, Heap.get?_none_of_le (Nat.le_of_eq hz.symm), fun n c hc => Heap.get?_none_of_le (Nat.le_of_lt (hz ▸ C.above n c hc))⟩
theorem e_body {mg mb : Str → Option Value} {h₀ : Heap} {L fa sl : Addr} {cd : Value} {m cm : Str → Option Value} {vs : List Value} {ns : List Int} (hz : L = h₀.objs.size)
    (G : Gr w mg mb h₀) (F : Fr h₀ L s.heap m) (C : Cl L (lawCs L) s.heap cm) (ms : m "script" = some (.ref sl))
    (hl : h₀.IsList sl (List.toArray vs)) (hi : IntsAre vs ns) (h63 : vs.length ≤ 63) :
    wpC (model prog w) (AL L fa cd) (execs (fnBody (topS 13)) (lawEnv L fa cd)) (fun f s' => (match f with | .ret v => v | _ => Value.none) = .bool true ∧ ∃ h tk m, s' = { s with heap := h, toks := tk } ∧ Fr h₀ L h m) (fun _ _ => False) s := by
  rw [e_hb]
  refine wpC_mono (law_body G (e_S hz F C) ms hl hi h63) (fun f s' q => ?_) fun _ _ q => q
  obtain ⟨v, rfl, h, tk', hf, m, cm, rfl, rfl, S'⟩ := q
  exact ⟨rfl, h, tk', m, rfl, S'.F⟩

/-- law's call, whole -/
theorem law_entry {mg mb : Str → Option Value} {fa sl : Addr} {o : Obj} {pm cd doc : Value} {vs : List Value} {ns : List Int} (G : Gr w mg mb s.heap) (ho : s.heap.get? fa = some o)
    (hdata : o.data = .func (Calls.docDef "law" (fnPar (topS 13)) (fnBody (topS 13)) (fnScope (topS 13)) pm cd doc)) (hcd : s.heap.CodeRec cd "law")
    (hl : s.heap.IsList sl (List.toArray vs)) (hi : IntsAre vs ns) (hz : vs.length ≤ 63) :
    wpC (model prog w) callerA (PySem.call (.ref fa) [.ref sl]) (fun v s' => v = .bool true ∧ ∃ h tk m, s' = { s with heap := h, toks := tk } ∧ Fr s.heap s.heap.objs.size h m) E s := by
  refine call_cellsC (Q := fun v s' => v = .bool true ∧ ∃ h tk m, s' = { s with heap := h, toks := tk } ∧ Fr s.heap s.heap.objs.size h m) e_room ho hdata G.T.nolimit hcd e_hbind e_kind e_co e_ge e_k ?_
  intro h₁ tk F C
  exact e_body (s := { s with heap := h₁, toks := tk }) (L := s.heap.objs.size) rfl G F C e_ms hl hi hz
end Ent

theorem fin0 : PySem.Challenge.rw_ph0115_01.Holds := by
  refine hd ?_
  intro w s₀ s₁ mg mb G Y fa o pm cd doc dV kV fo hd' hcd hD hmg hg args vals as hpre hlay hrd hwl hlo
  have KX := kIn_of Y
  have X := (Ground.X G).1
  have V := (Ground.X G).2
  refine Ground.open G ?_
  intro T B D TE TW
  try (refine guard_noD D (by decide +kernel) ?_; clear D)
  obtain ⟨_, _, M⟩ := bmod_of_top T
  obtain ⟨_, _, he, B0⟩ := based_of_top T rfl hmg fo hd'
  have he' : cd = _ := he
  subst he'
  clear he
  wrow_args hpre hlay hrd hwl hlo
  have he := Dflts.none hD rfl; subst he
  have he := Dflts.noKw hD; subst he
  (rename IntsAre _ _ => hI)
  (with_reducible rename Heap.IsList _ _ _ => hL)
  (rename ¬ _ => hN)
  refine wpC_mono (law_entry ⟨KX, topRead_of T⟩ fo (fd_plain hd') hcd hL hI ?hz) (fun v s' q => ?_) fun _ _ q => q
  case hz => rw [hI.length]; omega
  obtain ⟨rfl, h, tk, m, rfl, F⟩ := q
  wrow_closeG

end Mine
theorem PySem.Challenge.cw_ph0115_01_holds : PySem.Challenge.rw_ph0115_01.Holds := by
  exact Mine.fin0
