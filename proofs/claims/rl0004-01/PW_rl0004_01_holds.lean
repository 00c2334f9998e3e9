import PyProof.Rows.All
import Wide.All
import OpenK.AllK
import Wide.FinOn
import PyProof.ExcStrAll.Exception
import Lean
import PySem.Challenge.RW_rl0004_01
set_option Elab.async false
local macro_rules | `(tactic| walk_at $s:str) => `(tactic| k_extra $s)

section
open PySem PySem.W PyProof.Rows PySem.Calls
open Sem (wp)
namespace Mine
/-- the stack holds the claim's own caller -/
def HasC (Γ : Ctx) : Prop := (Γ.code :: Γ.below.map (·.1)).any Code.isCaller = true
/-- as wpAny, of the stacks that hold the claim's own caller -/
def wpC {α : Type} (M : Model) (A : Around) (t : Sem α) (Q : α → Shared → Prop) (E : Value → Shared → Prop) (s : Shared) : Prop :=
  ∀ Γ p, Γ.In A → HasC Γ → wp M Γ t (fun a _ s' => Q a s') (fun e _ s' => E e s') p s
/-- as codeAny -/
def codeC (M : Model) (A : Around) (c : Code) (R : Result → Shared → Prop) (s : Shared) : Prop :=
  ∀ Γ p, Γ.code = c → Γ.Below A → (Γ.below.map (·.1)).any Code.isCaller = true → wpCode M Γ R p s
section
variable {α β : Type} {M : Model} {A : Around} {E : Value → Shared → Prop} {s : Shared}
theorem wpC_of {t : Sem α} {Q : α → Shared → Prop} (h : wpAny M A t Q E s) : wpC M A t Q E s := fun Γ p hi _ => h Γ p hi
theorem codeC_of {c : Code} {R : Result → Shared → Prop} (h : codeAny M A c R s) : codeC M A c R s := fun Γ p hc hb _ => h Γ p hc hb
theorem wpC_mono {t : Sem α} {Q Q' : α → Shared → Prop} {E' : Value → Shared → Prop} (h : wpC M A t Q E s) (hQ : ∀ a s, Q a s → Q' a s) (hE : ∀ e s, E e s → E' e s) : wpC M A t Q' E' s :=
  fun Γ p hi hc => Sem.wp_mono M Γ t (fun a _ s => hQ a s) (fun e _ s => hE e s) p s (h Γ p hi hc)
theorem wpC_bind {m : Sem α} {f : α → Sem β} {Q : β → Shared → Prop} (h : wpC M A m (fun a s' => wpC M A (f a) Q E s') E s) : wpC M A (m >>= f) Q E s := fun Γ p hi hc => by
  rw [Sem.wp_bind']
  exact Sem.wp_mono M Γ m (fun a p' s' h' => h' Γ p' hi hc) (fun _ _ _ h' => h') p s (h Γ p hi hc)
/-- the part ahead of the cut in the plain logic -/
theorem wpC_cut {m : Sem α} {f : α → Sem β} {Q : β → Shared → Prop} (h : wpAny M A m (fun a s' => wpC M A (f a) Q E s') E s) : wpC M A (m >>= f) Q E s := wpC_bind (wpC_of h)
theorem wpC_onRaise {m : Sem α} {k : Value → Sem Unit} {Q : α → Shared → Prop} (h : wpC M A m Q (fun e s' => wpC M A (k e) (fun _ s'' => E e s'') E s') s) : wpC M A (m.onRaise k) Q E s := fun Γ p hi hc => by
  rw [Sem.wp_onRaise]
  exact Sem.wp_mono M Γ m (fun _ _ _ h' => h') (fun e p' s' h' => h' Γ p' hi hc) p s (h Γ p hi hc)
theorem wpC_tryCatch {m : Sem α} {k : Value → Sem α} {Q : α → Shared → Prop} (h : wpC M A m Q (fun e s' => wpC M A (k e) Q E s') s) : wpC M A (tryCatch m k) Q E s := fun Γ p hi hc => by
  rw [Sem.wp_tryCatch']
  exact Sem.wp_mono M Γ m (fun _ _ _ h' => h') (fun e p' s' h' => h' Γ p' hi hc) p s (h Γ p hi hc)
theorem wpC_attempt {m : Sem α} {Q : Except Value α → Shared → Prop} (h : wpC M A m (fun a => Q (.ok a)) (fun e => Q (.error e)) s) : wpC M A m.attempt Q E s := fun Γ p hi hc => by
  rw [Sem.wp_attempt]; exact h Γ p hi hc
theorem wpC_holding {vs : List Value} {m : Sem α} {Q : α → Shared → Prop} (h : wpC M A m Q E s) : wpC M A (holding vs m) Q E s := fun Γ p hi hc => by
  rw [Sem.wp_holding]; exact h Γ p hi hc
theorem wpC_run {c : Code} {h : Option Value} {Q : Flow → Shared → Prop} (hc : codeC M (A.mark h) c (fun r s' => match r with | .ok f => Q f s' | .error e => E e s') s) (hnb : h ≠ some byPass := by intro x; cases x) :
    wpC M A (run c h) Q E s := fun Γ p hi hC => by
  rw [Sem.wp_run]; exact hc _ p rfl (hi.enter c h p hnb) hC
theorem wpC_call {f : Value} {pos : List Value} {kw : List (Str × Value)} {Q : Value → Shared → Prop}
    (hc : codeC M A (.call f ⟨pos, kw⟩) (fun r s' => match r with | .ok (.ret v) => Q v s' | .ok _ => False | .error e => E e s') s) : wpC M A (call f pos kw) Q E s := fun Γ p hi hC => by
  show wp M Γ (runValue (.call f ⟨pos, kw⟩)) _ _ p s
  rw [Sem.wp_runValue]; exact hc _ p rfl (hi.enter _ none p (by intro x; cases x)) hC
theorem codeC_of_tree {c : Code} {R : Result → Shared → Prop}
    (h : wpC M (A.under c) (M.den c) (fun fin s' => match fin with | .done f => R (.ok f) s' | .again c' => c'.quiet = true ∧ codeC M A c' R s') (fun e s' => R (.error e) s') s) : codeC M A c R s := fun Γ p hc hb hC => by
  rw [wpCode_iff_wp, hc]
  refine Sem.wp_mono M Γ _ (fun fin p' s' h' => ?_) (fun _ _ _ h' => h') p s (h Γ p (hc ▸ hb.in) (by unfold HasC; rw [List.any_cons, hC, Bool.or_true]))
  cases fin with
  | done f => exact h'
  | again c' => exact ⟨h'.1, h'.2 (Γ.goto c') p' rfl (hb.goto c') hC⟩
theorem codeC_mono {c : Code} {R R' : Result → Shared → Prop} (h : codeC M A c R s) (hR : ∀ r s, R r s → R' r s) : codeC M A c R' s :=
  fun Γ p hc hb hC => wpCode_mono hR (h Γ p hc hb hC)
/-- a loop of one code that comes again -/
theorem codeC_loop {c : Code} {R : Result → Shared → Prop} (I : Nat → Shared → Prop) (hq : c.quiet = true)
    (turn : ∀ n s, I n s → wpC M (A.under c) (M.den c) (fun fin s' => match fin with | .done f => R (.ok f) s' | .again c' => (c' = c ∧ ∃ m, m < n ∧ I m s') ∨ (c'.quiet = true ∧ codeC M A c' R s')) (fun e s' => R (.error e) s') s) :
    ∀ n s, I n s → codeC M A c R s := by
  intro n
  induction n using Nat.strongRecOn with
  | _ n ih =>
    intro s hI
    refine codeC_of_tree (wpC_mono (turn n s hI) (fun fin s' h => ?_) fun _ _ h => h)
    cases fin with
    | done f => exact h
    | again c' =>
      rcases h with ⟨rfl, m, hm, hIm⟩ | h
      · exact ⟨hq, ih m hm s' hIm⟩
      · exact h
end
end Mine
end

section
open PySem PySem.W PyProof.Rows PySem.Calls
open Sem (wp)
namespace Mine
theorem endsC {prog : Program} {w : World} {t : Sem Fin} {s : Shared} {R : Result → Shared → Prop} (hreg : s.asleep)
    (h : wpC (model prog w) callerA t (fun fin s' => ∃ f, fin = .done f ∧ (R (.ok f) s' ∧ leftWithCleanup s'.gens = false)) (fun e s' => R (.error e) s' ∧ leftWithCleanup s'.gens = false) s) :
    ∃ n r s' s'', runN (denote table) prog w n s ⟨t, .builtin "claim.caller" {}, default, []⟩ = .halted (outcomeOf r) s' ∧
      schedN (denote table) prog w n (.single s ⟨t, .builtin "claim.caller" {}, default, []⟩) = .halted (outcomeOf r) s' ∧ s'.forget = s''.forget ∧ R r s'' := by
  have h0 := h ⟨.builtin "claim.caller" {}, none, none, [], none⟩ default caller_in rfl
  obtain ⟨n, r, s₁, s₂, hs, hn, hfo, hR⟩ := wp_halts_full (M := model prog w) (R := R) hreg (Sem.wp_mono _ _ t (fun fin p' s' q => by obtain ⟨f, rfl, hf⟩ := q; exact hf) (fun _ _ _ q => q) _ _ h0)
  exact ⟨n, r, s₂, s₁, hn, hs, hfo, hR⟩
theorem fromC {c : ClaimW} {tree : List Value → Sem Fin} {w : World} {s : Shared} {free : Addr → Prop} {gens : Prop} {kept : Heap → Prop} (hz : s.asleep) (hgens : s.gens = #[])
    (hspec : ∀ args, c.pre args = true → WData.layableAll args = true → ∀ ord : List DictEntry → List DictEntry, (∀ l, (ord l).Perm l) →
      ∃ vs s₁, layAllW c.records (classAt s.heap) w.params ord args s = some (vs, s₁) ∧
        wpC (model c.prog w) callerA (tree vs) (fun fin s' => ∃ f, fin = .done f ∧ (c.Ends s args vs s₁ (.ok f) s' ∧ s'.os = s.os ∧ AllBare s'.gens ∧ kept s'.heap))
          (fun e s' => c.Ends s args vs s₁ (.error e) s' ∧ s'.os = s.os ∧ AllBare s'.gens ∧ kept s'.heap) s₁) :
    c.CallFrom (fun vs => ⟨tree vs, .builtin "claim.caller" {}, default, []⟩) w free gens kept s := fun args hpre hlay ord hord => by
  obtain ⟨vs, s₁, hlaid, hcode⟩ := hspec args hpre hlay ord hord
  have hal := layAllW_rest _ _ _ hlaid
  obtain ⟨k, r, s', s'', hrun, hsched, hfo, hcase, hos, hkp⟩ := endsC (prog := c.prog) (w := w) (t := tree vs) (s := s₁) (R := fun r s' => c.Ends s args vs s₁ r s' ∧ s'.os = s.os ∧ kept s'.heap)
    (Shared.asleep_of_life hal.2.2.2 hz)
    (wpC_mono hcode (fun fin s' ⟨f, e, h1, h2, h3, h4⟩ => ⟨f, e, ⟨h1, h2, h4⟩, leftWithCleanup_false_of_bare h3⟩) fun e s' ⟨h1, h2, h3, h4⟩ => ⟨⟨h1, h2, h4⟩, leftWithCleanup_false_of_bare h3⟩)
  obtain ⟨eh, _, _, eo, _⟩ := Shared.forget_eq hfo
  have hcase := hcase.congr eh
  have hkp : kept s'.heap := by rw [eh]; exact hkp
  rw [← eo] at hos
  have hlife : s'.heap.life = s.heap.life := (runN_life _ _ _ hrun).trans hal.2.2.2
  refine ⟨vs, s₁, hlaid, k, _, s', hsched, ?_, (fun _ i x hx => by rw [hgens] at hx; simp at hx), hkp, by rw [hlife], Shared.rest_eq hos⟩
  rcases hcase with ⟨v, rfl, d1, d2, d3, d4, d5⟩ | ⟨e, ob, cls, rfl, d1, d2, d3, d4, d5⟩
  · exact .inl ⟨v, rfl, d1, d2, d3, fun b o y _ => d4 b o y, d5⟩
  · exact .inr ⟨e, ob, cls, rfl, d1, d2, d3, d4, fun b o y _ => d5 b o y⟩
/-- as the library's WalkO, of the stacks that hold the claim's own caller -/
abbrev WalkC (q : Program) (loose : List Str) (XP : (Str → Option Value) → Heap → Prop) (YP : World → Heap → Prop) (r : RowW) (d : DefRec) (kwd : List (Str × Expr)) : Prop :=
  ∀ (w : World) (s₀ s₁ : Shared) (mg mb : Str → Option Value), Ground q loose r.records XP w s₀ mg mb s₁.heap → YP w s₁.heap → ∀ (a : Addr) (o : Obj) (pm cd doc dV kV : Value), s₁.heap.get? a = some o →
    o.data = .func { docDef d.name d.params d.body d.scope pm cd doc with defaults := dV, kwdefaults := kV } → s₁.heap.CodeRec cd d.name → Dflts mg s₁.heap d.params kwd dV kV → mg d.name = some (.ref a) → s₁.gens = #[] →
    ∀ (args : List WData) (vals : List Value) (as : List Addr), r.claim.pre args = true → WData.layableAll args = true → ReadsAllW r.records (classAt s₀.heap) s₁.heap vals args as → WellAll w.params s₁.heap vals args → (∀ a ∈ as, (a == sysModules) = false) →
      wpC (model r.prog w) callerA (PySem.call (.ref a) vals) (fun v s' => GoodWG r.claim (classAt s₀.heap) (ExcName.means s₀.heap) args s₁ (.ok (.ret v)) s')
        (fun e s' => GoodWG r.claim (classAt s₀.heap) (ExcName.means s₀.heap) args s₁ (.error e) s') s₁
theorem PySem.W.holds_open {r : OpenRow} {q : Program} {loose : List Str} {Xt : Shared → Bool} {XP : (Str → Option Value) → Heap → Prop} {α : Type} {Yf : Shared → α} {Ya : World → α} {YP : World → Heap → Prop} {d : DefRec} {kwd : List (Str × Expr)} {N : Nat}
    (left : LeftO r.prog q loose Xt Yf Ya N) (hY : ∀ w s, Yf s = Ya w → YP w s.heap) (hYk : ∀ w h h', YP w h → (∀ b o, h.get? b = some o → h'.get? b = some o) → YP w h')
    (hX : ∀ s, Xt s = true → XP (s.heap.nsMap mainGlobals) s.heap) (hXk : ∀ mg h h', XP mg h → (∀ b o, h.get? b = some o → h'.get? b = some o) → XP mg h')
    (hdef : defOf q r.name = some (d, kwd)) (hp : r.prog.theDef r.name = some (d.params, d.body, d.scope)) (hk : kwWritten? d.params.kwonlyargs d.params.kw_defaults = some kwd) (hRf : ∀ s, Xt s = true → RecFacts r.records s.heap) (hwr : (!r.writes || r.records.isEmpty) = true)
    (k1 : r.wellSaid = true) (ok : (chainsOk q && opensWell r.prog && (frees r.toRowW && r.within.isEmpty)) = true) (hb : r.prog.bare) (hw : r.toRowW.promised)
    (call : WalkC q loose XP YP r.toRowW d kwd) : r.Holds := by
  refine ⟨k1, hw, ?_⟩
  obtain ⟨ok, k5⟩ := Bool.and_eq_true_iff.mp ok
  obtain ⟨hch, o1⟩ := Bool.and_eq_true_iff.mp ok
  obtain ⟨k5, k6⟩ := Bool.and_eq_true_iff.mp k5
  obtain ⟨hsame, hu, ha, hap, hm⟩ := frees_parts k5
  refine ⟨⟨hb, o1, by show r.makers.map _ = []; rw [hm]; rfl⟩, hw.witness, fun w => ⟨(left.behind hX hch w).1, fun s' hs' => ?_⟩⟩
  obtain ⟨s₀, hf, hg0, s, hT, hz, hgens, hg, G00, y⟩ := (left.behind (XP := fun mg h => XP mg h ∧ RecFacts r.records h) (fun s hs => ⟨hX s hs, hRf s hs⟩) hch w).2 s' hs'
  have G0 : Ground q loose [] XP w s (s.heap.nsMap mainGlobals) (s.heap.nsMap builtinsNs) s.heap := ⟨G00.T, G00.B, G00.D, G00.TE, G00.TD, G00.W, G00.X.1, G00.cls, G00.has, G00.apart, G00.once, G00.K⟩
  have RF := G00.X.2
  have hT' := hT
  refine ⟨s₀, hf, hg0, s, hT, fun n hn => ?_, RF.1, RF.2.1, ?_⟩
  · obtain rfl : n = r.name := by split at hn <;> simp_all
    exact pinned_of_view hg G0 hdef hp hk
  have hgens : s.gens = #[] := Array.eq_empty_of_size_eq_zero (beq_iff_eq.mp hgens)
  have G : Ground q loose r.records XP w s _ _ s.heap := RF.ground G0
  refine fromC (c := r.toRowW.claim) (tree := fun vs => do match ← nsGet mainNs r.name with
      | some f => do ret (← PySem.call f vs)
      | none => unsupported "claim.caller:no-such-global") hz hgens fun args hpre hlay ord hord => ?_
  obtain ⟨⟨vs, s₁⟩, hlaid⟩ := Option.isSome_iff_exists.mp (layAllW_isSome (P := w.params) (ord := ord) G.has args r.args s (pre_splitW hpre).1)
  have keeps := layAllW_keeps _ _ _ hlaid
  have hal := layAllW_rest _ _ _ hlaid
  obtain ⟨as, hrd, hin, hold⟩ := reads_layAllW hord _ _ _ hlaid hlay s₁.heap (fun _ _ e => e)
  have L : Laid r.records w s s₁ args vs as := ⟨⟨ord, hord, hlaid⟩, hrd, hin, hold, keeps, hal.1.trans hgens, hal.2.2.1⟩
  have G₁ := G.keeps hXk keeps
  obtain ⟨a, o, pm, cd, doc, dV, kV, h1, h2, h3, h4, h5⟩ := G₁.fn hdef
  have h := call w s s₁ _ _ G₁ (hYk _ _ _ (hY w s y) keeps) a o pm cd doc dV kV h2 h3 h4 h5 (defOf_name hdef ▸ h1) L.gens args vs as hpre hlay L.reads L.well (L.low G.low)
  have hi := ident_freeW hu ha hap
  have hwi : r.claim.within = [] := List.isEmpty_iff.mp k6
  refine ⟨vs, s₁, hlaid, wpC_cut (wpAny_nsGet G₁.T.g ?_)⟩
  rw [h1]
  refine wpC_bind (wpC_mono h (fun v s' g => wpC_of (wpAny_pure ?_)) fun e s' g => ?_)
  · exact ⟨_, rfl, have z := g.laid (c := r.toRowW.claim) hsame hwi hi L; ⟨z.1, z.2.1, z.2.2, fun q => ⟨namesKept_of hT' hg _ keeps g.2.1.old, noTable hwr q⟩⟩⟩
  · exact have z := g.laid (c := r.toRowW.claim) hsame hwi hi L; ⟨z.1, z.2.1, z.2.2, fun q => ⟨namesKept_of hT' hg _ keeps g.2.1.old, noTable hwr q⟩⟩
set_option maxRecDepth 100000 in
set_option maxHeartbeats 8000000 in
open_top hd for PySem.Challenge.rw_rl0004_01
end Mine
end

section
open PySem PySem.W PyProof.Rows PySem.Calls
open Sem (wp)
namespace Mine
section
variable {M : Model} {A : Around} {E : Value → Shared → Prop} {s : Shared} {env : Env}
theorem execsC_cons {st : Stmt} {rest : List Stmt} {Q : Flow → Shared → Prop} (h : wpC M A (exec st env) (fun f s' => match f with | .next => wpC M A (execs rest env) Q E s' | f => Q f s') E s) :
    wpC M A (execs (st :: rest) env) Q E s := fun Γ p hi hc => by
  rw [execs_cons, Sem.wp_bind']
  refine Sem.wp_mono M Γ _ (fun f p' s' h' => ?_) (fun _ _ _ h' => h') _ _ (h Γ p hi hc)
  cases f <;> first | exact h' Γ p' hi hc | exact h'
theorem ifC {test : Expr} {body orelse : List Stmt} {pos : Pos} {Q : Flow → Shared → Prop}
    (h : wpC M A (isTrue test env (eval test env)) (fun b s₂ => wpC M A (execs (if b then body else orelse) env) Q E s₂) E s) : wpC M A (exec (.If test body orelse pos) env) Q E s := by
  have e : exec (.If test body orelse pos) env = (do standAt pos; let b ← isTrue test env (eval test env); execs (if b then body else orelse) env) := by
    rw [exec_If]
    refine congrArg (fun k => (standAt pos >>= k : Sem Flow)) (funext fun _ => congrArg (fun k => (isTrue test env (eval test env) >>= k : Sem Flow)) (funext fun b => ?_))
    cases b <;> rfl
  rw [e]
  exact wpC_cut (wpAny_standAt (wpC_bind h))
theorem compareC {l r : Expr} {op : CmpOp} {pos : Pos} {whole : Sem Value} {Q : Bool → Shared → Prop}
    (h : wpC M A (eval l env) (fun a s₁ => wpAny M A (eval r env) (fun b s₂ => wpAny M A (compareOp op a b) (fun c s₃ => wpAny M A (truthy c) Q E s₃) E s₂) E s₁) E s)
    (hm : behindInMarks op r = false := by with_unfolding_all rfl) : wpC M A (isTrue (.Compare l [op] [r] pos) env whole) Q E s := fun Γ p hi hc => by
  simp only [isTrue_Compare1, markedBehindIn_of_false hm, Sem.wp_bind', Sem.wp_holding, Sem.wp_cmd_standAt, Sem.wp_operate]
  exact Sem.wp_mono M Γ _ (fun a p₁ s₁ h₁ => Sem.wp_mono M Γ _ (fun b _ s₂ h₂ => Sem.wp_mono M Γ _ (fun c p₃ s₃ h₃ => h₃ Γ p₃ hi)
    (fun _ _ _ h' => h') _ _ (h₂ Γ _ hi)) (fun _ _ _ h' => h') _ _ (h₁ Γ p₁ hi)) (fun _ _ _ h' => h') _ _ (h Γ p hi hc)
theorem callNameC {x : Str} {p pos : Pos} {args : List Expr} {Q : Value → Shared → Prop}
    (h : wpAny M A (eval (.Name x p) env) (fun f s₁ => wpC M A (callWith pos f [] (backTo pos (starEach args env)) []) Q E s₁) E s) : wpC M A (eval (.Call (.Name x p) args [] pos) env) Q E s := by
  exact wpC_cut h
theorem returnC {e : Expr} {pos : Pos} {Q : Flow → Shared → Prop} (h : wpC M A (eval e env) (fun v => Q (.ret v)) E s) : wpC M A (exec (.Return (some e) pos) env) Q E s := fun Γ p hi hc => by
  simp only [exec_Return_some, Sem.wp_bind', Sem.wp_cmd_standAt, Sem.wp_pure']; exact h Γ _ hi hc
theorem assignC {x : Str} {pos' pos : Pos} {value : Expr} {Q : Flow → Shared → Prop}
    (h : wpC M A (eval value env) (fun v s₁ => wpAny M A (storeName env x v) (fun _ => Q .next) E s₁) E s)
    (hs : swapsWith value (some (.Name x pos')) pos.line env = pure false := by rfl) : wpC M A (exec (.Assign [.Name x pos'] value pos) env) Q E s := fun Γ p hi hc => by
  simp only [exec_Assign_Name env x pos' value pos hs, Sem.wp_bind', Sem.wp_cmd_standAt, Sem.wp_bindName, Sem.wp_pure']
  exact Sem.wp_mono M Γ _ (fun v _ s₁ h₁ => h₁ Γ _ hi) (fun _ _ _ h' => h') _ _ (h Γ _ hi hc)
theorem tryC {body orelse : List Stmt} {h₀ : ExceptHandler} {hs : List ExceptHandler} {pos : Pos} {Q : Flow → Shared → Prop}
    (h : wpC M A (execs body env) (fun f s₁ => match f with | .next => wpAny M A (execs orelse env) Q E s₁ | f => Q f s₁)
      (fun e s₁ => wpAny M A (noteFrame e env) (fun _ s₂ => wpAny M A (setFlight e none) (fun _ s₃ => wpAny M A (handleBy e env (h₀ :: hs)) Q E s₃) E s₂) E s₁) s) :
    wpC M A (exec (.Try body (h₀ :: hs) orelse [] pos) env) Q E s := by
  rw [arm_exec_Try]
  refine wpC_cut (wpAny_standAt ?_)
  unfold tryStmt
  simp only [List.isEmpty_nil, if_true, List.isEmpty_cons, Bool.false_and, Bool.false_eq_true, if_false]
  refine wpC_bind (wpC_attempt (wpC_mono h (fun f s₁ h₁ => wpC_of ?_) fun e s₁ h₁ => wpC_of ?_))
  · cases f <;> first | exact h₁ | exact wpAny_pure h₁
  · exact wpAny_bind (wpAny_mono h₁ (fun _ _ h₂ => wpAny_bind h₂) fun _ _ x => x)
theorem callWithC_of {pos : Pos} {f : Value} {first : List Value} {Q : Value → Shared → Prop} {P : Heap → Prop} {args : List (Bool × Sem Value)} (hplain : (args.any (·.1)) = false)
    (hk : ∀ h, P h → ∃ k, (k = Keeper.frame ∨ k = Keeper.machine ∨ k = Keeper.boundFrame) ∧ Looks M h (keeperOf f) k)
    (h : wpAny M A (evalArgs f true args []) (fun a s₁ => P s₁.heap ∧ wpC M A (call f (first ++ a.pos) a.kw) Q E s₁) E s) : wpC M A (callWith pos f first args []) Q E s := by
  unfold callWith
  refine wpC_cut (wpAny_holding (wpAny_mono h (fun a s₁ h₁ => wpC_cut (wpAny_standAt ?_)) fun _ _ x => x))
  obtain ⟨k, hk', L⟩ := hk _ h₁.1
  simp only [hplain, List.any_nil, Bool.or_false]
  refine wpC_cut (L.here ?_)
  have tail : ∀ {t : Sem Value}, wpC M A t Q E s₁ → wpC M A (t >>= fun r => holding [r] point >>= fun _ => pure r) Q E s₁ :=
    fun ht => wpC_bind (wpC_mono ht (fun r s₂ hr => wpC_of (wpAny_bind (wpAny_holding (wpAny_point (wpAny_pure hr))))) fun _ _ x => x)
  have marked (mk : Value) : wpC M A (callMarked mk f (first ++ a.pos) a.kw) Q E s₁ := by
    unfold callMarked
    exact fun Γ p hi hc => by rw [Sem.wp_keep]; exact h₁.2 Γ p hi hc
  rcases hk' with rfl | rfl | rfl <;> dsimp only <;> first | exact tail h₁.2 | (split <;> first | exact tail h₁.2 | exact tail (marked _))
theorem callWithC_K {K : Frag} {pos : Pos} {f : Value} {first : List Value} {Q : Value → Shared → Prop} {e : Expr} {rest : List Expr} (hk : keepIn K f = true)
    (h : wpAny M A (spliced (backTo pos (starEach (e :: rest) env))) (fun vs s₁ => K.In s₁.heap ∧ wpC M A (call f (first ++ vs)) Q E s₁) E s)
    (he : starEach (e :: rest) env = (false, eval e env) :: starEach rest env := by rfl) (hplain : (backTo pos (starEach rest env)).any (·.1) = false := by rfl) :
    wpC M A (callWith pos f first (backTo pos (starEach (e :: rest) env)) []) Q E s := by
  rw [he] at h ⊢
  exact callWithC_of (by show (false || (backTo pos (starEach rest env)).any (·.1)) = false; rw [hplain]; rfl) (keeps_K hk) (evalArgs_plain h)
end
section
variable {prog : Program} {w : World} {A : Around} {E : Value → Shared → Prop} {s : Shared} {R : Result → Shared → Prop}
theorem codeC_func {body : List Stmt} {env : Env}
    (h : wpC (model prog w) (A.deeper env) (execs body env) (fun f s' => R (.ok (.ret (match f with | .ret v => v | _ => .none))) s')
      (fun e s' => wpAny (model prog w) (A.deeper env) (leaving env e) (fun _ s'' => R (.error e) s'') (fun e' s'' => R (.error e') s'') s') s) : codeC (model prog w) A (.func body env) R s := by
  refine codeC_of_tree ?_
  show wpC _ (A.deeper env) (do point; match ← (execs body env).onRaise (leaving env) with | .ret v => ret v | _ => ret .none) _ _ s
  refine wpC_cut (wpAny_point (wpC_bind (wpC_onRaise (wpC_mono h (fun f s' h' => ?_) fun _ _ h' => wpC_of h'))))
  cases f <;> exact wpC_of (wpAny_pure h')
theorem codeC_call_function {a : Addr} {args : Args} {o : Obj} {fd : FuncData} {body : List Stmt} (hroom : A.depth < recursionLimit) (ho : s.heap.get? a = some o)
    (hd' : o.data = .func fd) (hco : fd.scope.isCoroutine = false) (hgen : fd.scope.isGenerator = false) (hbody : fd.body = .stmts body) (hcd : s.heap.CodeRec fd.code fd.qualname)
    (h : wpAny (model prog w) A.in1 (bindArgs fd args) (fun binds s₁ =>
      wpAny (model prog w) A.in1 (newFunctionEnv fd.scope fd.globals fd.closure binds (fd.qualname ++ ".<locals>.") (some a) fd.code none fd.builtins)
        (fun env s₂ => s₂.heap.NoLimit ∧ codeC (model prog w) A (.func body env) R s₂) (fun e s' => R (.error e) s') s₁) (fun e s' => R (.error e) s') s) :
    codeC (model prog w) A (.call (.ref a) args) R s := by
  refine codeC_of_tree (wpC_of ?_)
  show wpAny _ A.in1 (callAny (.ref a) args) _ _ s
  simp only [callAny]
  refine wpAny_bind (wpAny_load ho ?_)
  obtain ⟨c, oc, vs, tq, hc, hoc, hdc, hq⟩ := hcd
  simp only [hd', callFunction, hco, hgen, hbody, hc]
  rw [hc] at h
  refine wpAny_bind (m := field (.ref c) 1) (wpAny_field hoc hdc hq (wpAny_bind (wpAny_pure ?_)))
  exact wpAny_bind (wpAny_mono h (fun binds s₁ h₁ => wpAny_bind (wpAny_mono h₁ (fun env s₂ h₂ => wpAny_bind (wpAny_enterFrame h₂.1 hroom
    (wpAny_pure (And.intro rfl h₂.2)))) fun _ _ h' => h')) fun _ _ h' => h')
end
end Mine
end

section
open PySem PySem.W PyProof.Rows PySem.Calls
open Builtin Builtin.Str Builtin.BaseException
namespace Mine
section
open Builtin Builtin.Str Builtin.BaseException
variable {prog : Program} {w : World} {A : Around} {E : Value → Shared → Prop} {s : Shared} {K : Frag} {e t0 C : Addr}
theorem own_args {M : Model} {items : List Value} {o : Obj} {vs : Array Value} {Q : Value × List Value → Shared → Prop} (ho : s.heap.get? e = some o) (hd : o.data = .fields vs) (h0 : vs[0]? = some (.ref t0)) (ht : s.heap.TupAt t0 items) (hq : Q (.ref t0, items) s) :
    wpAny M A (bexcArgs (.ref e)) Q E s := by
  obtain ⟨ot, k, hto, _, htd⟩ := ht
  unfold bexcArgs
  refine wpAny_bind (wpAny_field ho hd h0 (wpAny_bind (wpAny_seqItems hto htd ?_)))
  have : items.toArray.toList = items := by simp
  show wpAny M A (pure (Value.ref t0, items.toArray.toList)) Q E s
  rw [this]; exact wpAny_pure hq
theorem own_entry {m : Str} {tk : Tok} {o : Obj} {vs : Array Value} {Q : Fin → Shared → Prop} (ho : s.heap.get? e = some o) (hd : o.data = .fields vs) (h0 : vs[0]? = some (.ref t0)) (ht : s.heap.TupAt t0 [.str m tk])
    (hq : Q (.done (.ret (.str m tk))) s) : wpAny (model prog w) A (Builtin.«BaseException.__str__» ⟨[.ref e], []⟩) Q E s := by
  unfold Builtin.«BaseException.__str__»
  repeat (first | with_reducible refine own_args ho hd h0 ht ?_ | wp_step)
  exact hq
theorem own_call {m : Str} {tk : Tok} {o : Obj} {vs : Array Value} {Q : Value → Shared → Prop} (X : K.In s.heap) (hm : mroIn K C (.type "BaseException") = some true)
    (ho : s.heap.get? e = some o) (hc : o.cls = .ref C) (hd : o.data = .fields vs) (h0 : vs[0]? = some (.ref t0)) (ht : s.heap.TupAt t0 [.str m tk]) (hq : Q (.str m tk) s) :
    wpAny (model prog w) A (call (.builtin "BaseException.__str__") [.ref e]) Q E s := by
  have LT : Looks (model prog w) s.heap (typeOf (.ref e)) (.ref C) := hc ▸ (Looks.ld ho).andThen .now
  refine wpAny_call (codeAny_call_builtin PySem.F.excStr_Exception.str.plain PySem.F.entry_bexc_str
    (check_slot (i := "BaseException.__str__") (owner := "BaseException") (n := "__str__") (by decide +kernel) (by decide +kernel) (LT.andThen (looks_mroIn X hm)) (PySem.F.args_bexc_str _) ?_))
  exact own_entry ho hd h0 ht hq
theorem own_strOf {m : Str} {tk : Tok} {o : Obj} {vs : Array Value} {Q : Value → Shared → Prop} (hu : A.units < cLine) (X : K.In s.heap) (hs : findIn K (.ref C) "__str__" = some (some (.builtin "BaseException.__str__"))) (hm : mroIn K C (.type "BaseException") = some true)
    (ho : s.heap.get? e = some o) (hc : o.cls = .ref C) (hd : o.data = .fields vs) (h0 : vs[0]? = some (.ref t0)) (ht : s.heap.TupAt t0 [.str m tk]) (hq : Q (.str m tk) s) :
    wpAny (model prog w) A (PySem.Builtin.Str.strOf (.ref e)) Q E s := by
  have LT : Looks (model prog w) s.heap (typeOf (.ref e)) (.ref C) := hc ▸ (Looks.ld ho).andThen .now
  unfold PySem.Builtin.Str.strOf
  rw [show isExactStr (.ref e) = false from rfl]
  refine wpAny_bind (m := cRoomFor _ _) (wpAny_cRoomFor hu ?_)
  refine wpAny_bind (m := callSpecial? (.ref e) (Str.ofString "__str__")) ?_
  refine wpAny_bind (wpAny_bind (LT.here ((looks_findIn X hs).here (wpAny_holding (wpAny_bind ((Looks.of_pure (PySem.F.excStr_Exception.str.bind _)).here (wpAny_bind ?_)))))))
  exact own_call X hm ho hc hd h0 ht (wpAny_pure (wpAny_pure hq))
/-- str() of an own exception that holds one text -/
theorem str_own {m : Str} {tk : Tok} {o : Obj} {vs : Array Value} {Q : Value → Shared → Prop} (hu : A.units + 2 < cLine) (X : K.In s.heap) (hs : findIn K (.ref C) "__str__" = some (some (.builtin "BaseException.__str__"))) (hm : mroIn K C (.type "BaseException") = some true)
    (ho : s.heap.get? e = some o) (hc : o.cls = .ref C) (hd : o.data = .fields vs) (h0 : vs[0]? = some (.ref t0)) (ht : s.heap.TupAt t0 [.str m tk]) (h : Q (.str m tk) s) :
    wpAny (model prog w) A (call (.type "str") [.ref e]) Q E s :=
  callType_new F.called_str (by decide) (F.typeCall_str_1 _) (F.newCall_str_1 _) (fun obj => F.args_object_init_2 obj _) F.entry_str_new
    (meets_str_new (S := fun A' R s' => A'.units + 1 < cLine ∧ K.In s'.heap ∧ s'.heap.get? e = some o ∧ s'.heap.TupAt t0 [.str m tk] ∧ R (.ok (.ret (.str m tk))) s')
      fun _ _ A' _ _ hq => own_strOf (A := A'.in1) hq.1 hq.2.1 hs hm hq.2.2.1 hc hd h0 hq.2.2.2.1 hq.2.2.2.2)
    ⟨(show A.units + 1 + 1 < cLine from hu), X, ho, ht, typeIs_str _ _ _, h⟩
/-- behind a caught raise -/
theorem str_got {m : Str} {tk : Tok} {g : Heap} {L : Addr} {news : List (Addr × Obj)} {Q : Value → Shared → Prop} (hu : A.units + 2 < cLine) (X : K.In s.heap) (hs : findIn K (.ref C) "__str__" = some (some (.builtin "BaseException.__str__"))) (hm : mroIn K C (.type "BaseException") = some true)
    (N : News g L s.heap news) (G : Got news e t0 (.ref C) [.str m tk]) (h : Q (.str m tk) s) : wpAny (model prog w) A (call (.type "str") [.ref e]) Q E s := by
  obtain ⟨oe, ot, ws, nt, h1, h2, h3, h4, h5, h6, h7⟩ := G
  exact str_own hu X hs hm (N _ h1).1 h3 h4 h5 ⟨ot, nt, (N _ h2).1, h6, h7⟩ h
end
end Mine
end

section
open PySem PySem.W PyProof.Rows PySem.Calls PySem.NumText
open Sem (wp)
namespace Mine
theorem pb {α β : Type} (a : α) (f : α → Sem β) : (pure a >>= f : Sem β) = f a := rfl
theorem obj_tree (x : PySem.Str) (u : Tok) : (int_private% "intFromObject") (.str x u) = (int_private% "intFromText") (.str x u) (numTextOf x) 10 := by
  have g3 : callSpecial? (.str x u) (Str.ofString "__int__") = pure none := by
    show (typeLookup (.type "str") (Str.ofString "__int__") >>= _) = _
    rw [KIN.str_int]; rfl
  have g4 : specialOf (.str x u) (Str.ofString "__index__") = pure none := KIN.str_idx
  have g5 : specialOf (.str x u) (Str.ofString "__trunc__") = pure none := KIN.str_trunc
  with_unfolding_all show (callSpecial? (.str x u) (Str.ofString "__int__") [] [] >>= _) = _
  rw [g3, pb]
  dsimp only
  rw [g4, pb]
  simp only [Option.isSome_none, Bool.false_eq_true, if_false]
  rw [g5, pb]
  dsimp only
  rfl
theorem new_tree (x : PySem.Str) (u : Tok) : Builtin.«int.__new__» ⟨[.type "int", .str x u], []⟩ = ((int_private% "intFromText") (.str x u) (numTextOf x) 10 >>= fun v => ret v) := by
  have f1 := F.conv_sub_int
  have f2 := F.madeHere_int
  have f0 : isType (.type "int") = pure true := rfl
  unfold Builtin.«int.__new__»
  dsimp only
  rw [f0, pb]
  simp only [Bool.not_true, Bool.false_eq_true, if_false]
  rw [f1, pb]
  simp only [Bool.not_true, Bool.false_eq_true, if_false]
  rw [f2, pb]
  rw [← obj_tree]
  rfl
end Mine
end

section
open PySem PySem.W PyProof.Rows PySem.Calls PySem.NumText
open Sem (wp)
namespace Mine
section
variable {prog : Program} {w : World} {A : Around} {E : Value → Shared → Prop} {s : Shared}
theorem markC {own : List String} {e : Value} {Q : Unit → Shared → Prop} (h : Q () s) : wpC (model prog w) A (markTheRefusal own e) Q E s := fun Γ p hi hc => by
  unfold markTheRefusal
  have hm : pythonCodeMadeTheCall own (((Γ.code, p) :: Γ.below).map (·.1)) = false := by
    unfold pythonCodeMadeTheCall
    refine Bool.and_eq_false_iff.mpr (.inl (Bool.and_eq_false_iff.mpr (.inl ?_)))
    exact congrArg (fun b => !b) (show _ = true from hc)
  show wp _ Γ (if pythonCodeMadeTheCall own (((Γ.code, p) :: Γ.below).map (·.1)) = true then _ else _) _ _ p s
  rw [hm]
  exact h
theorem textC {x : PySem.Str} {u : Tok} {Q : Value → Shared → Prop} (hh : A.handled = none) (hs : (numSeenOf x).length ≤ 640) (hr : (int_private% "readNumeral") 0 10 (numSeenOf x) = int_private% "Numeral.invalid") (hl : (reprText x).length ≤ 1000)
    (hE : ∀ h' tk e, Heap.NewExc s.heap h' e "ValueError" → E (.ref e) { s with heap := h', toks := tk }) :
    wpC (model prog w) A ((int_private% "intFromText") (.str x u) (numTextOf x) 10) Q E s := by
  with_unfolding_all show wpC _ _ (if (numSeenOf x).length ≤ 640 then _ else _) _ _ _
  rw [if_pos hs, pb]
  dsimp only
  rw [hr]
  dsimp only
  refine wpC_cut (wpAny_pure ?_)
  simp only [Option.isSome_none, Bool.false_and, Bool.false_eq_true, if_false]
  refine wpC_cut (wpAny_rule ?_)
  refine wpC_cut (wpAny_pure ?_)
  dsimp only
  refine wpC_cut (wpAny_pyRepr_str ?_ (Nat.le_trans hl (by decide)))
  refine wpC_cut (wpAny_mkStr ?_ ?_)
  · unfold newExc newTuple
    refine wpC_cut (wpAny_bind (wpAny_newObj_type ?_))
    refine wpAny_bind (m := firstArgMember _ _) (wpAny_of_eq (a := Value.none) (by simp only [firstArgMember, plainExc_ValueError.first]; rfl) ?_)
    rw [plainExc_ValueError.own]
    refine wpAny_newObj_type ?_
    refine wpC_bind (markC ?_)
    refine wpC_of (wpAny_raiseNew_none hh ?_)
    exact hE _ _ _ ⟨fun b o hb => Heap.get?_push_of_some _ (Heap.get?_push_of_some _ hb), Heap.get?_none_of_le (by simp), _, .ref s.heap.objs.size, Heap.get?_push_size _ rfl, rfl, by simp⟩
  · rw [Str.length_append]
    have e1 : (PySem.Str.ofString (toString "invalid literal for int() with base " ++ toString 10 ++ toString ": ")).length ≤ 100 := by decide +kernel
    have e2 : (PySem.Str.mk ((reprText x).cps.extract 0 200)).length ≤ 200 := by
      show ((reprText x).cps.extract 0 200).size ≤ 200
      rw [Array.size_extract]; omega
    rw [sizeLine_eq]
    omega
theorem codeC_builtin {R : Result → Shared → Prop} {id : String} {args : Args} {b : Builtin} (hb : entryFor table id = some b)
    (h : wpC (model prog w) (A.under (.builtin id args)) (b args) (fun fin s' => match fin with | .done f => R (.ok f) s' | .again c' => c'.quiet = true ∧ codeC (model prog w) A c' R s') (fun e s' => R (.error e) s') s) :
    codeC (model prog w) A (.builtin id args) R s := by
  refine codeC_of_tree ?_
  show wpC _ _ (match entryFor table id with | some b => b args | none => unsupported ((withoutEnding? id "#data").getD id)) _ _ s
  rw [hb]; exact h
theorem codeC_call_type {R : Result → Shared → Prop} {T : String} {args : Args} (h : codeC (model prog w) A (.builtin "type.__call__" { args with pos := .type T :: args.pos }) R s) : codeC (model prog w) A (.call (.type T) args) R s := by
  refine codeC_of_tree ?_
  show wpC _ A.in1 (callAny (.type T) args) _ _ s
  exact wpC_of (wpAny_pure ⟨Code.quiet_builtin _ (by decide +kernel), h⟩)
theorem codeC_call_builtin {R : Result → Shared → Prop} {id : String} {args : Args} (hq : plainId id = true) (hck : checkBuiltinCall id args = pure ()) (h : codeC (model prog w) A (.builtin id args) R s) : codeC (model prog w) A (.call (.builtin id) args) R s := by
  refine codeC_of_tree ?_
  show wpC _ A.in1 (do checkBuiltinCall id args; again (.builtin id args)) _ _ s
  rw [hck, pb]
  exact wpC_of (wpAny_pure ⟨plainId_quiet hq args, h⟩)
/-- int() of a text that is no number: a new ValueError -/
theorem intC {x : PySem.Str} {u : Tok} {Q : Value → Shared → Prop} (hh : A.handled = none) (hs : (numSeenOf x).length ≤ 640) (hr : (int_private% "readNumeral") 0 10 (numSeenOf x) = int_private% "Numeral.invalid") (hl : (reprText x).length ≤ 1000)
    (hE : ∀ h' tk e, Heap.NewExc s.heap h' e "ValueError" → E (.ref e) { s with heap := h', toks := tk }) :
    wpC (model prog w) A (call (.type "int") [.str x u]) Q E s := by
  have ft := F.called_int
  obtain ⟨c, tl, hmro⟩ := ft.mro
  have hmade := ft.made
  have h1 := ft.notType
  have h2 := ft.canCreate
  have h3 := F.typeCall_int_1 (.str x u)
  refine wpC_call (codeC_call_type (codeC_builtin F.entry_type_call ?_))
  rw [Around.under_plain (weight_type_call_type "int" [.str x u] []) rfl]
  dsimp only
  unfold Builtin.«type.__call__»
  dsimp only
  simp only [h1, Bool.false_eq_true, if_false]
  rw [h2]
  simp only [Bool.false_eq_true, if_false]
  rw [h3, pb, hmro, pb]
  simp only [List.isEmpty_cons, Bool.false_eq_true, if_false]
  rw [hmade, pb]
  dsimp only
  rw [pb]
  refine wpC_bind (wpC_holding (wpC_call (codeC_call_builtin ft.plain (F.newCall_int_1 _) (codeC_builtin F.entry_int_new ?_))))
  rw [Around.under_plainId ft.plain _, new_tree]
  exact wpC_bind (textC hh hs hr hl hE)
end
end Mine
end

section
open PySem PySem.W PyProof.Rows PySem.Calls
open Sem (wp)
namespace Mine
section
variable {prog : Program} {w : World} {A₀ A : Around} {s : Shared} {base h₀ : Heap} {outer : List Env} {L : Addr} {env : Env} {m : Str → Option Value} {news : List (Addr × Obj)} {K : Frag} {p : Program} {loose : List Str} {mean : ExcName → Option Value} {mg mb : Str → Option Value}
    {R : Result → Shared → Prop} {name qual : Str} {params : Arguments} {body : List Stmt} {scope : Scope} {dV kV doc pm cdv ct oc : Value} {an od : Option Addr} {osl : Array (Option Value)} {f : Addr} {args : Args} {binds : List (Str × Value)}
theorem codeC_call_def {a : Addr} {o : Obj} {fd : FuncData} (hroom : A.depth < recursionLimit) (ho : s.heap.get? a = some o) (hdata : o.data = .func fd) (hlim : s.heap.NoLimit) (hcd : s.heap.CodeRec fd.code fd.qualname)
    (hbody : fd.body = .stmts body) (hbind : BindsTo s fd args binds) (hcell : ∀ x ∈ fd.scope.names, x.2 ≠ .cell) (hloc : ∀ x ∈ binds, fd.scope.names.lookup x.1 = some .local)
    (h : ∀ h₀, h₀.Ns s.heap.objs.size (fun x => binds.reverse.lookup x) → (∀ b o, s.heap.get? b = some o → h₀.get? b = some o) →
      wpC (model prog w) (A.deeper (callEnv fd s.heap.objs.size a)) (execs body (callEnv fd s.heap.objs.size a)) (fun f s' => R (.ok (.ret (match f with | .ret v => v | _ => .none))) s')
        (fun e s' => wpAny (model prog w) (A.deeper (callEnv fd s.heap.objs.size a)) (leaving (callEnv fd s.heap.objs.size a) e) (fun _ s'' => R (.error e) s'') (fun e' s'' => R (.error e') s'') s')
        { s with heap := h₀, toks := s.toks + binds.length })
    (hco : fd.scope.isCoroutine = false) (hgen : fd.scope.isGenerator = false) (hk : fd.scope.kind = .function) : codeC (model prog w) A (.call (.ref a) args) R s := by
  refine codeC_call_function hroom ho hdata hco hgen hbody hcd (hbind _ _ _ _ ?_)
  refine wpAny_newFunctionEnv hcell hloc (fun h₀ hns₀ hsb₀ => ⟨hlim.fresh _ hsb₀, codeC_func (h h₀ hns₀ fun b o e => ?_)⟩) hk
  exact hsb₀.extBut b o (Nat.ne_of_lt (Heap.lt_size e)) (Heap.get?_push_of_some _ e)
/-- a def that is entered in wpC -/
theorem enterKC (B : Below A₀ base outer h₀) (F : Fr h₀ L s.heap m) (X₀ : K.In h₀) (N : News h₀ L s.heap news) (T : Top p loose mean mg mb h₀) (hA : A.frames = some (env :: outer)) (hf : env.frame = some L) (hke : env.scope.kind = .function)
    (ho : K.lookup f = some ⟨oc, od, .func (fnOf name qual params body scope dV kV doc pm an cdv ct), osl⟩) (hcd : codeIn K cdv qual = true) (hroom : A.depth < recursionLimit)
    (hbind : BindsTo s (fnOf name qual params body scope dV kV doc pm an cdv ct) args binds) (hloc : ∀ y ∈ binds, scope.names.lookup y.1 = some .local)
    (h : ∀ g L' h₁, Fr h₀ L g m → Fr g L' h₁ (fun y => binds.reverse.lookup y) → News g L' h₁ news → Below A base (env :: outer) g → K.In g → Top p loose mean mg mb g →
      wpC (model prog w) (A.deeper (envOf qual scope L' f cdv)) (execs body (envOf qual scope L' f cdv))
        (fun fl s' => LeaveK h₀ L m g R (match fl with | .ret v => v | _ => .none) s')
        (fun e s' => wpAny (model prog w) (A.deeper (envOf qual scope L' f cdv)) (leaving (envOf qual scope L' f cdv) e) (fun _ s'' => R (.error e) s'') (fun e' s'' => R (.error e') s'') s')
        { s with heap := h₁, toks := s.toks + binds.length })
    (hco : scope.isCoroutine = false) (hgen : scope.isGenerator = false) (hk : scope.kind = .function) (hcell : ∀ x ∈ scope.names, x.2 ≠ .cell) : codeC (model prog w) A (.call (.ref f) args) R s := by
  have X := X₀.keeps F.keep
  obtain ⟨FG, BG, st, lv⟩ := groundX (R := R) B F N hA hf hke
  refine codeC_call_def (fd := fnOf name qual params body scope dV kV doc pm an cdv ct) (body := body) (binds := binds) hroom (X _ _ ho) rfl (T.nolimit.keeps F.keep) (codeRec_of X hcd) rfl hbind hcell hloc (fun h₁ hns hk₁ => ?_) hco hgen hk
  exact wpC_mono (h _ s.heap.objs.size h₁ FG ⟨hns, fun b o e => hk₁ b o (of_hideAll _ e), Nat.le_of_eq (hideAll_size _ _)⟩
    (fun p hp => ⟨hk₁ _ _ (N p hp).1, Nat.ne_of_lt (Heap.lt_size (N p hp).1), hideAll_none _ (List.mem_map_of_mem hp)⟩) BG (X₀.keeps st) (T.keeps st)) (fun fl s' hl => lv _ _ hl) fun _ _ y => y
/-- a def that catches, entered in wpC from the one frame `env` -/
theorem enterTC (B : Below A₀ base [] h₀) (F : Fr h₀ L s.heap m) (X₀ : K.In h₀) (N : News h₀ L s.heap news) (T : Top p loose mean mg mb h₀) (hA : A.frames = some [env]) (hf : env.frame = some L) (hke : env.scope.kind = .function)
    (ho : K.lookup f = some ⟨oc, od, .func (fnOf name qual params body scope dV kV doc pm an cdv ct), osl⟩) (hcd : codeIn K cdv qual = true) (hroom : A.depth < recursionLimit)
    (hbind : BindsTo s (fnOf name qual params body scope dV kV doc pm an cdv ct) args binds) (hloc : ∀ y ∈ binds, scope.names.lookup y.1 = some .local)
    (h : ∀ g L' h₁, Fr h₀ L g m → Fr g L' h₁ (fun y => binds.reverse.lookup y) → News g L' h₁ news → Below A base [env] g → K.In g → Top p loose mean mg mb g → KtsDicts ([env].filterMap (·.frame)) g →
      wpC (model prog w) (A.deeper (envOf qual scope L' f cdv)) (execs body (envOf qual scope L' f cdv))
        (fun fl s' => LeaveS0 ([env].filterMap (·.frame)) h₀ L m g R (match fl with | .ret v => v | _ => .none) s')
        (fun e s' => wpAny (model prog w) (A.deeper (envOf qual scope L' f cdv)) (leaving (envOf qual scope L' f cdv) e) (fun _ s'' => R (.error e) s'') (fun e' s'' => R (.error e') s'') s')
        { s with heap := h₁, toks := s.toks + binds.length })
    (hco : scope.isCoroutine = false) (hgen : scope.isGenerator = false) (hk : scope.kind = .function)
    (hcell : ∀ x ∈ scope.names, x.2 ≠ .cell) : codeC (model prog w) A (.call (.ref f) args) R s := by
  have X := X₀.keeps F.keep
  obtain ⟨FG, BG, st, _⟩ := groundX (R := R) B F N hA hf hke
  have hmem : ∀ b, b ∈ [env].filterMap (·.frame) → b = L := fun b hb => by
    simp only [List.filterMap_cons, hf, List.filterMap_nil, List.mem_singleton] at hb
    exact hb
  refine codeC_call_def (fd := fnOf name qual params body scope dV kV doc pm an cdv ct) (body := body) (binds := binds) hroom (X _ _ ho) rfl (T.nolimit.keeps F.keep) (codeRec_of X hcd) rfl hbind hcell hloc (fun h₁ hns hk₁ => ?_) hco hgen hk
  have FG' := FG
  obtain ⟨⟨oL, es, ep, hLg, hLd, hLk, hLf⟩, _, _⟩ := FG'
  refine wpC_mono (h _ s.heap.objs.size h₁ FG ⟨hns, fun b o e => hk₁ b o (of_hideAll _ e), Nat.le_of_eq (hideAll_size _ _)⟩
    (fun p hp => ⟨hk₁ _ _ (N p hp).1, Nat.ne_of_lt (Heap.lt_size (N p hp).1), hideAll_none _ (List.mem_map_of_mem hp)⟩) BG (X₀.keeps st) (T.keeps st)
    (fun b hb => by rw [hmem b hb]; exact ⟨oL, es, ep, hLg, hLd⟩)) (fun fl s' hl => ?_) fun _ _ y => y
  obtain ⟨g', L', m', news', T', F', N', k⟩ := hl
  obtain ⟨sl, hs⟩ := T'.up hLg
  refine k ⟨⟨_, es, ep, F'.keep _ _ hs, hLd, hLk, hLf⟩, fun b o e => F'.keep b o (T'.other b o (st b o e) fun q => ?_), F.above⟩ fun p hp => ⟨(N' p hp).1, fun q => ?_, ?_⟩
  · rw [hmem b q, kts_self F] at e
    cases e
  · have z := (N' p hp).2.2; rw [q, hs] at z; cases z
  · cases q : h₀.get? p.1 with
    | none => rfl
    | some o =>
      obtain ⟨sl', hs'⟩ := T'.up (st _ _ q)
      have z := (N' p hp).2.2
      rw [hs'] at z
      cases z
end
end Mine
end

section
open PySem PySem.W PyProof.Rows PySem.Calls
namespace Mine
/-- what parse229 makes of a reply -/
inductive Out where
  | reply | proto | value
  | port (n : Int)
def partsOf (r : Str) : List Str := Txt.split (Txt.slice r (some (Txt.find r (Str.ofString "(") + 1)) (some (Txt.find3 r (Str.ofString ")") (Txt.find r (Str.ofString "(") + 1)))) (Txt.item r (Txt.find r (Str.ofString "(") + 1))
def outOf (r : Str) : Out :=
  if (Txt.slice r none (some 3) != Str.ofString "229") = true then .reply
  else if Txt.find r (Str.ofString "(") < 0 then .proto
  else if Txt.find3 r (Str.ofString ")") (Txt.find r (Str.ofString "(") + 1) < 0 then .proto
  else if (Txt.item r (Txt.find r (Str.ofString "(") + 1) != Txt.item r (Txt.find3 r (Str.ofString ")") (Txt.find r (Str.ofString "(") + 1) - 1)) = true then .proto
  else if (partsOf r).length ≠ 5 then .proto
  else match _root_.PySem.intText? ((partsOf r).getD 3 Str.empty) with
    | some n => .port n
    | none => .value
def ToldIs : Out → Obj → Prop
  | .reply, o => ∃ t, o = listOf #[.bool true, .str (Str.ofString "reply") t] 0
  | .proto, o => ∃ t, o = listOf #[.bool true, .str (Str.ofString "proto") t] 0
  | .value, o => ∃ t, o = listOf #[.bool true, .str (Str.ofString "value") t] 0
  | .port n, o => ∃ t t' k, o = { cls := .type "tuple", data := .seq #[.str (Str.ofString "mirror") t, .int n t'] k }
section
variable {r : Str}
theorem out_reply (h3 : (Txt.slice r none (some 3) != Str.ofString "229") = true) : outOf r = .reply := by unfold outOf; rw [if_pos h3]
theorem out_open (h3 : (Txt.slice r none (some 3) != Str.ofString "229") = false) (h4 : Txt.find r (Str.ofString "(") < 0) : outOf r = .proto := by
  unfold outOf; rw [h3, if_neg Bool.false_ne_true, if_pos h4]
theorem out_close (h3 : (Txt.slice r none (some 3) != Str.ofString "229") = false) (h4 : ¬ Txt.find r (Str.ofString "(") < 0) (h5 : Txt.find3 r (Str.ofString ")") (Txt.find r (Str.ofString "(") + 1) < 0) : outOf r = .proto := by
  unfold outOf; rw [h3, if_neg Bool.false_ne_true, if_neg h4, if_pos h5]
theorem out_marks (h3 : (Txt.slice r none (some 3) != Str.ofString "229") = false) (h4 : ¬ Txt.find r (Str.ofString "(") < 0) (h5 : ¬ Txt.find3 r (Str.ofString ")") (Txt.find r (Str.ofString "(") + 1) < 0)
    (h6 : (Txt.item r (Txt.find r (Str.ofString "(") + 1) != Txt.item r (Txt.find3 r (Str.ofString ")") (Txt.find r (Str.ofString "(") + 1) - 1)) = true) : outOf r = .proto := by
  unfold outOf; rw [h3, if_neg Bool.false_ne_true, if_neg h4, if_neg h5, if_pos h6]
theorem out_parts {l : List (Str × Tok)} (h3 : (Txt.slice r none (some 3) != Str.ofString "229") = false) (h4 : ¬ Txt.find r (Str.ofString "(") < 0) (h5 : ¬ Txt.find3 r (Str.ofString ")") (Txt.find r (Str.ofString "(") + 1) < 0)
    (h6 : (Txt.item r (Txt.find r (Str.ofString "(") + 1) != Txt.item r (Txt.find3 r (Str.ofString ")") (Txt.find r (Str.ofString "(") + 1) - 1)) = false) (hl : l.map (fun x => x.1) = partsOf r) (h7 : (l.length : Int) ≠ 5) : outOf r = .proto := by
  unfold outOf; rw [h3, if_neg Bool.false_ne_true, if_neg h4, if_neg h5, h6, if_neg Bool.false_ne_true, if_pos (by rw [← hl, List.length_map]; omega)]
theorem out_int {l : List (Str × Tok)} {y : Str} (h3 : (Txt.slice r none (some 3) != Str.ofString "229") = false) (h4 : ¬ Txt.find r (Str.ofString "(") < 0) (h5 : ¬ Txt.find3 r (Str.ofString ")") (Txt.find r (Str.ofString "(") + 1) < 0)
    (h6 : (Txt.item r (Txt.find r (Str.ofString "(") + 1) != Txt.item r (Txt.find3 r (Str.ofString ")") (Txt.find r (Str.ofString "(") + 1) - 1)) = false) (hl : l.map (fun x => x.1) = partsOf r) (h7 : (l.length : Int) = 5) (hy : (l.map (fun x => x.1))[Int.toNat 3]? = some y) :
    outOf r = (match _root_.PySem.intText? y with | some n => .port n | none => .value) := by
  unfold outOf; rw [h3, if_neg Bool.false_ne_true, if_neg h4, if_neg h5, h6, if_neg Bool.false_ne_true, if_neg (by rw [← hl, List.length_map]; omega)]
  have e : (partsOf r).getD 3 Str.empty = y := by
    rw [← hl, List.getD_eq_getElem?_getD]
    have : (l.map (fun x => x.1))[3]? = some y := hy
    rw [this]; rfl
  rw [e]
theorem told_l1 {t : Tok} (e : outOf r = .reply) : ToldIs (outOf r) (listOf #[.bool (r == r), .str (Str.ofString "reply") t] 0) := by rw [e, beq_self_eq_true]; exact ⟨t, rfl⟩
theorem told_l2 {t : Tok} (e : outOf r = .proto) : ToldIs (outOf r) (listOf #[.bool (r == r), .str (Str.ofString "proto") t] 0) := by rw [e, beq_self_eq_true]; exact ⟨t, rfl⟩
theorem told_l3 {t : Tok} (e : outOf r = .value) : ToldIs (outOf r) (listOf #[.bool true, .str (Str.ofString "value") t] 0) := by rw [e]; exact ⟨t, rfl⟩
theorem told_l4 {n : Int} {t t' : Tok} {k : Nat} (e : outOf r = .port n) : ToldIs (outOf r) { cls := .type "tuple", data := .seq #[.str (Str.ofString "mirror") t, .int n t'] k } := by rw [e]; exact ⟨t, t', k, rfl⟩
/-- what the caller gets -/
abbrev ToldRet (r : Str) (h₀ : Heap) (L : Addr) (m : Str → Option Value) (news : List (Addr × Obj)) (s : Shared) (Q : Value → Shared → Prop) : Prop :=
  ∀ (x : Addr) (o : Obj) (h' : Heap) (tk' : Nat), ToldIs (outOf r) o → Fr h₀ L h' m → News h₀ L h' ((x, o) :: news) → (∀ p ∈ news, p.1 < x) → Q (.ref x) { s with heap := h', toks := tk' }
theorem told_end {h₀ h' : Heap} {L x : Addr} {o : Obj} {m : Str → Option Value} {q : Addr × Obj} {news : List (Addr × Obj)} {s : Shared} {Q : Value → Shared → Prop} {tk : Nat} (hret : ToldRet r h₀ L m news s Q) (ho : ToldIs (outOf r) o)
    (F : Fr h₀ L h' m) (N : News h₀ L h' ((x, o) :: q :: news)) (hlt : q.1 < x ∧ AllLt x news) : Q (.ref x) { s with heap := h', toks := tk } :=
  hret x o h' tk ho F (fun p hp => N p ((List.mem_cons.mp hp).elim (fun h => h ▸ List.mem_cons_self ..) fun h => .tail _ (.tail _ h))) (kst_ltOf hlt.2)
theorem told_end2 {h₀ h' : Heap} {L x : Addr} {o : Obj} {m : Str → Option Value} {q q' : Addr × Obj} {news : List (Addr × Obj)} {s : Shared} {Q : Value → Shared → Prop} {tk : Nat} (hret : ToldRet r h₀ L m news s Q) (ho : ToldIs (outOf r) o)
    (F : Fr h₀ L h' m) (N : News h₀ L h' ((x, o) :: q :: q' :: news)) (hlt : q.1 < x ∧ q'.1 < x ∧ AllLt x news) : Q (.ref x) { s with heap := h', toks := tk } :=
  hret x o h' tk ho F (fun p hp => N p ((List.mem_cons.mp hp).elim (fun h => h ▸ List.mem_cons_self ..) fun h => .tail _ (.tail _ (.tail _ h)))) (kst_ltOf hlt.2.2)
end
end Mine
end

section
open PySem PySem.W PyProof.Rows PySem.Calls
namespace Mine
theorem callWithC_type {M : Model} {A : Around} {E : Value → Shared → Prop} {s : Shared} {env : Env} {pos : Pos} {T : String} {e : Expr} {rest : List Expr} {Q : Value → Shared → Prop}
    (h : wpAny M A (spliced (backTo pos (starEach (e :: rest) env))) (fun vs s₁ => wpC M A (call (.type T) vs) Q E s₁) E s)
    (he : starEach (e :: rest) env = (false, eval e env) :: starEach rest env := by rfl)
    (hplain : (backTo pos (starEach rest env)).any (·.1) = false := by rfl) :
    wpC M A (callWith pos (.type T) [] (backTo pos (starEach (e :: rest) env)) []) Q E s := by
  rw [he] at h ⊢
  exact callWithC_of (P := fun _ => True) (by show (false || (backTo pos (starEach rest env)).any (·.1)) = false; rw [hplain]; rfl)
    (fun h _ => ⟨.machine, .inr (.inl rfl), Looks.of_pure rfl⟩) (evalArgs_plain (wpAny_mono h (fun _ _ z => ⟨trivial, z⟩) fun _ _ z => z))
set_option maxRecDepth 100000 in
set_option maxHeartbeats 8000000 in
set_option rowWalk.seconds 0 in
theorem told_ok (w : World) (loose mean mg mb) (news : List (Addr × Obj)) (r : Str) (tr : Tok) (hr : r.length ≤ 100)
  (hA : Txt.find r (Str.ofString "(") < 0 ∨ (Txt.find r (Str.ofString "(") = 4 ∧ (Txt.find3 r (Str.ofString ")") (Txt.find r (Str.ofString "(") + 1) < 0 ∨ (6 ≤ Txt.find3 r (Str.ofString ")") (Txt.find r (Str.ofString "(") + 1) ∧ Txt.find3 r (Str.ofString ")") (Txt.find r (Str.ofString "(") + 1) < r.length))))
  (dp un : Nat) (gd : Option (List Code)) (env : Env) (A₀ : Around) (base h₀ : Heap) (L : Addr) (m : Str → Option Value) (s : Shared) (Q E : Value → Shared → Prop)
    (B : Below A₀ base [] h₀) (F : Fr h₀ L s.heap m) (XK : (Mine.hd.heap_39 w.params).In h₀) (XB : (Mine.hd.heap_39 w.params).In base) (TB : Top Mine.hd.view_39 loose mean mg mb base) (N : News h₀ L s.heap news) (T : Top Mine.hd.view_39 loose mean mg mb h₀)
    (hf : env.frame = some L) (hke : env.scope.kind = .function)
    (hdp : dp + 3 < recursionLimit) (hun : un + 20 < cLine) (hP : ∀ y ∈ partsOf r, ((numSeenOf y).length == (numTextOf y).length) = true ∧ (reprText y).length ≤ 1000) (hret : ToldRet r h₀ L m news s Q) :
    wpC (model PySem.Challenge.rw_rl0004_01.row.prog w) { handled := none, depth := dp, frames := some [env], guards := gd, units := un } (call (.ref 98) [.str r tr]) Q E s := by
  revert XK; k_fill; intro XK
  refine wpC_call ?_
  refine' enterTC (K := Mine.hd.heap_39 w.params) B F XK N T rfl hf hke ?k6 ?k7 ?k8 ?k9 ?kB ?_ ?c2 ?c3 ?c4 ?c5
  case k6 => k_dflt k_is
  case k7 => k_dflt k_is
  case k8 => (show dp < recursionLimit); omega
  case k9 => exact BindsTo.of_eq rfl
  case kB => exact locs rfl
  case c2 => exact rfl
  case c3 => exact rfl
  case c4 => exact rfl
  case c5 => decide
  intro g' L' h' FG' F' N' B' X' T' D'
  (try dsimp only)
  (try k_lift B')
  k_with_none
  (k_with "call type:str" => (k_here; (with_reducible rename Got _ _ _ _ _ => gX); (with_reducible show wpAny _ _ (call (Value.type "str") [Value.ref _]) _ _ _); k_dflt (refine' str_got ?u ?X ?s ?m ?N gX ?_; (case u => ((simp only [units_in1, units_deeper, Around.mark_units]); omega)); (case X => k_in); (case s => k_is); (case m => k_is); (case N => assumption); k_whole)))
  refine execsC_cons (tryC (execsC_cons (returnC (callNameC ?_))))
  k_steps
  refine callWithC_K (K := Mine.hd.heap_39 w.params) (by k_dflt k_is) ?_
  k_steps
  refine wpC_call ?_
  k_dflt (refine' enterKC (K := Mine.hd.heap_39 w.params) ?k1 ?k2 ?k3 ?k4 ?k5 ?kA ?kF ?kK ?k6 ?k7 ?k8 ?k9 ?kB ?_ ?c2 ?c3 ?c4 ?c5; (case kA => exact rfl); (case kF => exact rfl); (case kK => exact rfl); (case k1 => k_asm); (case k2 => k_asm); (case k3 => k_asm); (case k4 => k_asm); (case k5 => k_asm); (case k6 => k_is); (case k7 => k_is); (case k8 => ktr_room); (case k9 => exact BindsTo.of_eq rfl); (case c5 => decide); (case kB => exact locs rfl); (case c2 => exact rfl); (case c3 => exact rfl); (case c4 => exact rfl); k_whole; intro g₂ L₂ h₂ FG₂ F₂ N₂ B₂ X₂ T₂; (try dsimp only); (try k_lift B₂))
  iterate 9 (all_goals (try (refine execsC_cons (wpC_of ?_); (try k_fold); k_steps)))
  · exact told_end hret (told_l1 (out_reply (by assumption))) (by assumption) (by assumption) (by assumption)
  · exact told_end hret (told_l2 (out_open (by assumption) (by assumption))) (by assumption) (by assumption) (by assumption)
  · exact told_end hret (told_l2 (out_close (by assumption) (by assumption) (by assumption))) (by assumption) (by assumption) (by assumption)
  · exact told_end hret (told_l2 (out_marks (by assumption) (by assumption) (by assumption) (by assumption))) (by assumption) (by assumption) (by assumption)
  · exact told_end2 hret (told_l2 (out_parts (by assumption) (by assumption) (by assumption) (by assumption) (by assumption) (by assumption))) (by assumption) (by assumption) (by assumption)
  refine execsC_cons (assignC (callNameC ?_))
  k_steps
  refine callWithC_type ?_
  k_steps
  rename (List.map _ _)[Int.toNat 3]? = some _ => hy
  have hout := out_int (r := r) (by assumption) (by assumption) (by assumption) (by assumption) (by assumption) (by assumption) hy
  rename List.map _ _ = _ => hlk
  have hmem := List.mem_of_getElem? hy
  have hlen : _ ≤ r.length := Nat.le_trans ((by assumption : ∀ (a : Str), a ∈ List.map _ _ → a.length ≤ (Txt.slice r _ _).length) _ hmem) (by assumption)
  rw [hlk] at hmem
  have hPy := hP _ hmem
  have hs640 : (numSeenOf _).length ≤ 640 := Nat.le_trans (seen_length _) (Nat.le_trans hlen (by omega))
  rename Str => y9
  cases hi : _root_.PySem.intText? y9 with
  | some n =>
    rw [hi] at hout
    refine wpC_of (KIN.call_text hi (by omega) ?_)
    k_steps
    refine execsC_cons (wpC_of ?_)
    (try k_fold)
    k_steps
    exact told_end2 hret (told_l4 hout) (by assumption) (by assumption) (by assumption)
  | none =>
    rw [hi] at hout
    have hbad : (int_private% "readNumeral") 0 10 (numSeenOf y9) = int_private% "Numeral.invalid" := by
      rcases read0 y9 hs640 with ⟨_, h1, _⟩ | ⟨_, h1 | ⟨_, _, h2⟩⟩
      · rw [hi] at h1; cases h1
      · exact h1
      · exact absurd hPy.1 h2
    refine intC rfl hs640 hbad hPy.2 ?_
    intro h9 tk9 e9 hx9
    (try k_fold)
    k_steps
    exact told_end2 hret (told_l3 hout) (by assumption) (by assumption) (by assumption)
end Mine
end

section
open PySem PySem.W PyProof.Rows
namespace Mine
abbrev Cl2 (w : World) (loose : List Str) (mean : ExcName → Option Value) (mg mb : Str → Option Value) (f : Addr) (news : List (Addr × Obj)) (A : List (Addr × List Value × List Int)) (pre : Prop) (vs : List Value) (R : Tok → Value) : Prop :=
  CbClaim PySem.Challenge.rw_rl0004_01.row.prog w (Mine.hd.heap_39 w.params) Mine.hd.view_39 loose mean mg mb f news A pre vs R
def lawTurn (ps : List Int) (bit but : Int) (t : Int) (p : Int) : Int := if (p.fdiv (2 ^ bit.toNat)).fmod 2 = 1 ∧ p ≠ but then Builtin.bitXor t (ps.getD p.toNat 0) else t
def lawSum (ps : List Int) (bit but : Int) : Int := (rangeKs 1 7).foldl (lawTurn ps bit but) 0
theorem turn_go {ps : List Int} {bit but t p : Int} {pre : List Int} (h : t = pre.foldl (lawTurn ps bit but) 0) (c : (p.fdiv (2 ^ bit.toNat)).fmod 2 = 1) (n : p ≠ but) :
    Builtin.bitXor t (ps.getD p.toNat 0) = (pre ++ [p]).foldl (lawTurn ps bit but) 0 := by
  rw [List.foldl_append, ← h]; simp only [List.foldl_cons, List.foldl_nil, lawTurn]; rw [if_pos ⟨c, n⟩]
theorem turn_eq {ps : List Int} {bit but t p : Int} {pre : List Int} (h : t = pre.foldl (lawTurn ps bit but) 0) (c : p = but) :
    t = (pre ++ [p]).foldl (lawTurn ps bit but) 0 := by
  rw [List.foldl_append, ← h]; simp only [List.foldl_cons, List.foldl_nil, lawTurn]; rw [if_neg fun q => q.2 c]
theorem turn_no {ps : List Int} {bit but t p : Int} {pre : List Int} (h : t = pre.foldl (lawTurn ps bit but) 0) (c : (p.fdiv (2 ^ bit.toNat)).fmod 2 ≠ 1) :
    t = (pre ++ [p]).foldl (lawTurn ps bit but) 0 := by
  rw [List.foldl_append, ← h]; simp only [List.foldl_cons, List.foldl_nil, lawTurn]; rw [if_neg fun q => c q.1]
set_option maxRecDepth 100000 in
set_option maxHeartbeats 8000000 in
set_option rowWalk.seconds 0 in
theorem sumG (w : World) (loose mean mg mb) (l n : Nat) (vs : List Value) (ps : List Int) (hi : IntsAre vs ps) (h8 : ps.length = 8) (news : List (Addr × Obj)) (bit : Int) (tb : Tok) (but : Int) (tk : Tok) (hb0 : 0 ≤ bit) (hb2 : bit ≤ 2) :
    Cl2 w loose mean mg mb 84 ((l, listOf vs.toArray n) :: news) [] True [.ref l, .int bit tb, .int but tk] (fun t => .int (lawSum ps bit but) t) := by
  dsimp only [Cl2, CbClaim, CbLists, CbRet]
  k_fill
  intros
  rename_i hret
  refine wpAny_call ?_
  k_dflt cell_enter
  k_with_none
  (k_with "pyIter ref" => k_state_short (fun pre total => total = pre.foldl (lawTurn ps bit but) 0) "total")
  (k_with "state" => first | exact turn_go (by assumption) (by assumption) (by assumption) | exact turn_no (by assumption) (by assumption) | exact turn_eq (by assumption) (by first | rfl | assumption) | rfl)
  k_steps
  (k_with "tree" => assumption)
  all_goals cb_end hret
end Mine
end

section
open PySem PySem.W PyProof.Rows
namespace Mine
abbrev Cl (w : World) (loose : List Str) (mean : ExcName → Option Value) (mg mb : Str → Option Value) (f : Addr) (news : List (Addr × Obj)) (A : List (Addr × List Value × List Int)) (pre : Prop) (vs : List Value) (R : Tok → Value) : Prop :=
  CbClaim PySem.Challenge.rw_rl0004_01.row.prog w (Mine.hd.heap_39 w.params) Mine.hd.view_39 loose mean mg mb f news A pre vs R
theorem gen_toks {α : Type} {M : Model} {A : Around} {t : Sem α} {Q : α → Shared → Prop} {E : Value → Shared → Prop} {h : Heap} {g : Array GenState} {d} {os : OsState} {X : Nat}
    (hX : 1 ≤ X) (h' : ∀ tk, 1 ≤ tk → wpAny M A t Q E { heap := h, gens := g, drawn := d, toks := tk, os := os }) : wpAny M A t Q E { heap := h, gens := g, drawn := d, toks := X, os := os } := h' X hX
def lostF (r m : Str) (kind : Int) : Str :=
  if kind = 0 then Str.ofString "227" ++ Txt.slice r (some 3) none
  else if kind = 1 then Txt.slice r none (some (-1))
  else if kind = 2 then Txt.slice r none (some 5) ++ m ++ Txt.slice r (some 5) none
  else if kind = 3 then Txt.slice r none (some (-2)) ++ Str.ofString "x" ++ Txt.slice r (some (-2)) none
  else if kind = 4 then Txt.replace r (Str.ofString "(") (Str.ofString "")
  else if kind = 5 then Txt.slice r none (some (-1)) ++ Str.ofString "x)"
  else Str.ofString "227" ++ Txt.slice r (some 3) (some (-1))
section
set_option maxRecDepth 100000 in
set_option maxHeartbeats 8000000 in
set_option rowWalk.seconds 0 in
theorem lost_ok (w : World) (loose mean mg mb) (news : List (Addr × Obj)) (r m : Str) (tr tm : Tok) (kind : Int) (tk : Tok) (hr : r.length ≤ 100) (hm : m.length ≤ 1) :
    Cl w loose mean mg mb 91 news [] True [.str r tr, .str m tm, .int kind tk] (fun t => .str (lostF r m kind) t) := by
  dsimp only [Cl, CbClaim, CbLists, CbRet]
  k_fill
  intros
  rename_i hret
  refine wpAny_call ?_
  k_dflt cell_enter
  refine gen_toks (Nat.le_add_left 1 _) ?_
  intro tk0 htk0
  k_with_none
  (k_with "execs cons" => (k_here; (fail_if_success (fail_if_success k_gentoks)); refine gen_toks (by omega) ?_; intro tk9 htk9))
  (k_with "execs nil" => (k_here; (fail_if_success (fail_if_success k_gentoks)); refine gen_toks (by omega) ?_; intro tk9 htk9))
  (k_with "call builtin:str.replace" => (refine SC.replaceW (by (show @Ne Nat _ _); omega) (by (show @Ne Nat _ _); omega) (by (show @Ne Nat _ _); omega) (by decide +kernel) (by omega) (by decide +kernel) ?_; intro _ _))
  k_steps
  (k_with "tree" => simp only [lostF, if_true, if_false, *])
  all_goals cb_end hret
end
end Mine
end

section
open PySem PySem.W PyProof.Rows
namespace Mine
section
variable {w : World} {loose : List Str} {mean : ExcName → Option Value} {mg mb : Str → Option Value} {news : List (Addr × Obj)} {nm : Str} {cs : Scope} {fa : Addr} {ccd : Value} {base h₀ : Heap} {L : Addr} {mm : Str → Option Value} {s : Shared} {Q E : Value → Shared → Prop}
theorem lost_use {r m X : Str} {tr tm : Tok} {kind : Int} {tk : Tok} (hr : r.length ≤ 100) (hm : m.length ≤ 1) (hX : lostF r m kind = X) (B : Below callerA base [] h₀) (F : Fr h₀ L s.heap mm) (XK : (Mine.hd.heap_39 w.params).In h₀) (N : News h₀ L s.heap news) (T : Top Mine.hd.view_39 loose mean mg mb h₀) (hk : cs.kind = .function)
    (hret : ∀ (t : Tok) (h' : Heap) (tk' : Nat), Fr h₀ L h' mm → News h₀ L h' news → Q (.str X t) { s with heap := h', toks := tk' }) :
    wpAny (model PySem.Challenge.rw_rl0004_01.row.prog w) (callerA.deeper (envOfC nm cs L fa ccd)) (call (.ref 91) [.str r tr, .str m tm, .int kind tk]) Q E s :=
  lost_ok w loose mean mg mb news r m tr tm kind tk hr hm _ _ _ nm cs fa ccd _ [] callerA base h₀ L mm s Q E B F XK N T hk trivial (by decide) (by decide) (by rw [hX]; exact hret)
theorem sum_use {l n : Nat} {vs : List Value} {ps : List Int} {bit but : Int} {tb tk : Tok} (hm : (l, listOf vs.toArray n) ∈ news) (hi : IntsAre vs ps) (h8 : ps.length = 8) (hb0 : 0 ≤ bit) (hb2 : bit ≤ 2) (B : Below callerA base [] h₀) (F : Fr h₀ L s.heap mm) (X : (Mine.hd.heap_39 w.params).In h₀) (N : News h₀ L s.heap news) (T : Top Mine.hd.view_39 loose mean mg mb h₀) (hk : cs.kind = .function)
    (hret : ∀ (t : Tok) (h' : Heap) (tk' : Nat), Fr h₀ L h' mm → News h₀ L h' news → Q (.int (lawSum ps bit but) t) { s with heap := h', toks := tk' }) :
    wpAny (model PySem.Challenge.rw_rl0004_01.row.prog w) (callerA.deeper (envOfC nm cs L fa ccd)) (call (.ref 84) [.ref l, .int bit tb, .int but tk]) Q E s :=
  sumG w loose mean mg mb l n vs ps hi h8 news bit tb but tk hb0 hb2 _ _ _ nm cs fa ccd _ [] callerA base h₀ L mm s Q E B F X
    (fun p hp => N p ((List.mem_cons.mp hp).elim (fun h => h ▸ hm) id)) T hk trivial (by decide) (by decide) (fun t h' tk' F' N' => hret t h' tk' F' fun p hp => N' p (.tail _ hp))
end
end Mine
end

section
open PySem PySem.W PyProof.Rows PySem.Calls
namespace Mine
section
variable {prog : Program} {w : World} {A₀ A : Around} {s : Shared} {base h₀ : Heap} {L : Addr} {env : Env} {m : Str → Option Value} {news : List (Addr × Obj)} {K : Frag} {p : Program} {loose : List Str} {mean : ExcName → Option Value} {mg mb : Str → Option Value}
    {R : Result → Shared → Prop} {name qual : Str} {params : Arguments} {body : List Stmt} {scope : Scope} {dV kV doc pm cdv ct oc : Value} {an od : Option Addr} {osl : Array (Option Value)} {f : Addr} {args : Args} {binds : List (Str × Value)}
/-- a def that catches, called from the one frame `env` (cells or not): the frame may come back with other slots -/
theorem enterT (B : Below A₀ base [] h₀) (F : Fr h₀ L s.heap m) (X₀ : K.In h₀) (N : News h₀ L s.heap news) (T : Top p loose mean mg mb h₀) (hA : A.frames = some [env]) (hf : env.frame = some L) (hke : env.scope.kind = .function)
    (ho : K.lookup f = some ⟨oc, od, .func (fnOf name qual params body scope dV kV doc pm an cdv ct), osl⟩) (hcd : codeIn K cdv qual = true) (hroom : A.depth < recursionLimit)
    (hbind : BindsTo s (fnOf name qual params body scope dV kV doc pm an cdv ct) args binds) (hloc : ∀ y ∈ binds, scope.names.lookup y.1 = some .local)
    (h : ∀ g L' h₁, Fr h₀ L g m → Fr g L' h₁ (fun y => binds.reverse.lookup y) → News g L' h₁ news → Below A base [env] g → K.In g → Top p loose mean mg mb g → KtsDicts ([env].filterMap (·.frame)) g →
      wpAny (model prog w) (A.deeper (envOf qual scope L' f cdv)) (execs body (envOf qual scope L' f cdv))
        (fun fl s' => LeaveS0 ([env].filterMap (·.frame)) h₀ L m g R (match fl with | .ret v => v | _ => .none) s')
        (fun e s' => wpAny (model prog w) (A.deeper (envOf qual scope L' f cdv)) (leaving (envOf qual scope L' f cdv) e) (fun _ s'' => R (.error e) s'') (fun e' s'' => R (.error e') s'') s')
        { s with heap := h₁, toks := s.toks + binds.length })
    (hco : scope.isCoroutine = false) (hgen : scope.isGenerator = false) (hk : scope.kind = .function)
    (hcell : ∀ x ∈ scope.names, x.2 ≠ .cell) : codeAny (model prog w) A (.call (.ref f) args) R s := by
  have X := X₀.keeps F.keep
  obtain ⟨FG, BG, st, _⟩ := groundX (R := R) B F N hA hf hke
  have hmem : ∀ b, b ∈ [env].filterMap (·.frame) → b = L := fun b hb => by
    simp only [List.filterMap_cons, hf, List.filterMap_nil, List.mem_singleton] at hb
    exact hb
  refine codeAny_call_def (fd := fnOf name qual params body scope dV kV doc pm an cdv ct) (body := body) (binds := binds) hroom (X _ _ ho) rfl (T.nolimit.keeps F.keep) (codeRec_of X hcd) rfl hbind hcell hloc (fun h₁ hns hk₁ => ?_) hco hgen hk
  have FG' := FG
  obtain ⟨⟨oL, es, ep, hLg, hLd, hLk, hLf⟩, _, _⟩ := FG'
  refine wpAny_mono (h _ s.heap.objs.size h₁ FG ⟨hns, fun b o e => hk₁ b o (of_hideAll _ e), Nat.le_of_eq (hideAll_size _ _)⟩
    (fun p hp => ⟨hk₁ _ _ (N p hp).1, Nat.ne_of_lt (Heap.lt_size (N p hp).1), hideAll_none _ (List.mem_map_of_mem hp)⟩) BG (X₀.keeps st) (T.keeps st)
    (fun b hb => by rw [hmem b hb]; exact ⟨oL, es, ep, hLg, hLd⟩)) (fun fl s' hl => ?_) fun _ _ y => y
  obtain ⟨g', L', m', news', T', F', N', k⟩ := hl
  obtain ⟨sl, hs⟩ := T'.up hLg
  refine k ⟨⟨_, es, ep, F'.keep _ _ hs, hLd, hLk, hLf⟩, fun b o e => F'.keep b o (T'.other b o (st b o e) fun q => ?_), F.above⟩ fun p hp => ⟨(N' p hp).1, fun q => ?_, ?_⟩
  · rw [hmem b q, kts_self F] at e
    cases e
  · have z := (N' p hp).2.2; rw [q, hs] at z; cases z
  · cases q : h₀.get? p.1 with
    | none => rfl
    | some o =>
      obtain ⟨sl', hs'⟩ := T'.up (st _ _ q)
      have z := (N' p hp).2.2
      rw [hs'] at z
      cases z
end
theorem port_facts {r : Str} {n : Int} (h : outOf r = .port n) : (Txt.slice r none (some 3) != Str.ofString "229") = false ∧ ¬ Txt.find r (Str.ofString "(") < 0 ∧ ¬ Txt.find3 r (Str.ofString ")") (Txt.find r (Str.ofString "(") + 1) < 0 ∧
    (Txt.item r (Txt.find r (Str.ofString "(") + 1) != Txt.item r (Txt.find3 r (Str.ofString ")") (Txt.find r (Str.ofString "(") + 1) - 1)) = false ∧ (partsOf r).length = 5 ∧ _root_.PySem.intText? ((partsOf r).getD 3 Str.empty) = some n := by
  unfold outOf at h
  split at h
  · cases h
  split at h
  · cases h
  split at h
  · cases h
  split at h
  · cases h
  split at h
  · cases h
  rename_i a b c d e
  simp only [Bool.not_eq_true, ne_eq, Decidable.not_not] at a d e
  refine ⟨a, b, c, d, e, ?_⟩
  split at h
  · cases h; assumption
  · cases h
theorem parts_of {r : Str} {l : List (Str × Tok)} (hl : l.map (fun x => x.1) = partsOf r) (h7 : (partsOf r).length = 5) : (l.length : Int) = 5 := by
  rw [← hl, List.length_map] at h7; omega
theorem parts_y {r y : Str} {l : List (Str × Tok)} (hl : l.map (fun x => x.1) = partsOf r) (hy : (l.map (fun x => x.1))[Int.toNat 3]? = some y) : (partsOf r).getD 3 Str.empty = y := by
  rw [← hl, List.getD_eq_getElem?_getD]
  have : (l.map (fun x => x.1))[3]? = some y := hy
  rw [this]; rfl
theorem nr {r : Str} {n : Int} (h : outOf r = .port n) (h' : outOf r = .reply) : False := by rw [h] at h'; cases h'
theorem np {r : Str} {n : Int} (h : outOf r = .port n) (h' : outOf r = .proto) : False := by rw [h] at h'; cases h'
theorem port_text {r y : Str} {n : Int} {l : List (Str × Tok)} (h : outOf r = .port n) (hl : l.map (fun x => x.1) = partsOf r) (hy : (l.map (fun x => x.1))[Int.toNat 3]? = some y) : _root_.PySem.intText? y = some n := by
  have := (port_facts h).2.2.2.2.2
  rw [parts_y hl hy] at this
  exact this
theorem port_short {r y : Str} {l : List Str} {B : Nat} (hy : l[Int.toNat 3]? = some y) (h : ∀ a ∈ l, a.length ≤ B) (hB : B ≤ r.length) (hr : r.length ≤ 100) : y.length ≤ 640 := by
  have := h y (List.mem_of_getElem? hy)
  omega
theorem told_endP {n : Int} {t t' : Tok} {k : Nat} {h₀ h' : Heap} {L x : Addr} {m : Str → Option Value} {q q' : Addr × Obj} {news : List (Addr × Obj)} {s : Shared} {Q : Value → Shared → Prop} {tk : Nat}
    (hret : ∀ (x : Addr) (t t' : Tok) (k : Nat) (h' : Heap) (tk' : Nat), Fr h₀ L h' m → News h₀ L h' ((x, { cls := .type "tuple", data := .seq #[.str (Str.ofString "mirror") t, .int n t'] k }) :: news) → (∀ p ∈ news, p.1 < x) → Q (.ref x) { s with heap := h', toks := tk' })
    (F : Fr h₀ L h' m) (N : News h₀ L h' ((x, { cls := .type "tuple", data := .seq #[.str (Str.ofString "mirror") t, .int n t'] k }) :: q :: q' :: news)) (hlt : q.1 < x ∧ q'.1 < x ∧ AllLt x news) : Q (.ref x) { s with heap := h', toks := tk } :=
  hret x t t' k h' tk F (fun p hp => N p ((List.mem_cons.mp hp).elim (fun h => h ▸ List.mem_cons_self ..) fun h => .tail _ (.tail _ (.tail _ h)))) (kst_ltOf hlt.2.2)
set_option maxRecDepth 100000 in
set_option maxHeartbeats 8000000 in
set_option rowWalk.seconds 0 in
theorem told_port (w : World) (loose mean mg mb) (news : List (Addr × Obj)) (r : Str) (tr : Tok) (n : Int) (hr : r.length ≤ 100) (hout : outOf r = .port n)
  (hA : Txt.find r (Str.ofString "(") < 0 ∨ (Txt.find r (Str.ofString "(") = 4 ∧ (Txt.find3 r (Str.ofString ")") (Txt.find r (Str.ofString "(") + 1) < 0 ∨ (6 ≤ Txt.find3 r (Str.ofString ")") (Txt.find r (Str.ofString "(") + 1) ∧ Txt.find3 r (Str.ofString ")") (Txt.find r (Str.ofString "(") + 1) < r.length))))
  (dp un : Nat) (gd : Option (List Code)) (env : Env) (A₀ : Around) (base h₀ : Heap) (L : Addr) (m : Str → Option Value) (s : Shared) (Q E : Value → Shared → Prop)
    (B : Below A₀ base [] h₀) (F : Fr h₀ L s.heap m) (XK : (Mine.hd.heap_39 w.params).In h₀) (N : News h₀ L s.heap news) (T : Top Mine.hd.view_39 loose mean mg mb h₀)
    (hf : env.frame = some L) (hke : env.scope.kind = .function)
    (hdp : dp + 3 < recursionLimit) (hun : un + 20 < cLine)
    (hret : ∀ (x : Addr) (t t' : Tok) (k : Nat) (h' : Heap) (tk' : Nat), Fr h₀ L h' m → News h₀ L h' ((x, { cls := .type "tuple", data := .seq #[.str (Str.ofString "mirror") t, .int n t'] k }) :: news) → (∀ p ∈ news, p.1 < x) → Q (.ref x) { s with heap := h', toks := tk' }) :
    wpAny (model PySem.Challenge.rw_rl0004_01.row.prog w) { handled := none, depth := dp, frames := some [env], guards := gd, units := un } (call (.ref 98) [.str r tr]) Q E s := by
  revert XK; k_fill; intro XK
  refine wpAny_call ?_
  refine' enterT (K := Mine.hd.heap_39 w.params) B F XK N T rfl hf hke ?k6 ?k7 ?k8 ?k9 ?kB ?_ ?c2 ?c3 ?c4 ?c5
  case k6 => k_dflt k_is
  case k7 => k_dflt k_is
  case k8 => (show dp < recursionLimit); omega
  case k9 => exact BindsTo.of_eq rfl
  case kB => exact locs rfl
  case c2 => exact rfl
  case c3 => exact rfl
  case c4 => exact rfl
  case c5 => decide
  intro g' L' h' FG' F' N' B' X' T' D'
  (try dsimp only)
  (try k_lift B')
  (try k_fold)
  k_with_none
  (k_with "call ref" => (k_here; refine wpAny_call ?_; k_dflt (refine' code_def ?k1 ?k2 ?k3 ?k4 ?k5 ?kA ?kF ?kK ?k6 ?k7 ?k8 ?k9 ?kB ?_ ?c2 ?c3 ?c4 ?c5; (case kA => exact rfl); (case kF => exact rfl); (case kK => first | exact rfl | assumption); (case k1 => k_asm); (case k2 => k_asm); (case k3 => k_asm); (case k4 => k_asm); (case k5 => k_asm); (case k6 => k_is); (case k7 => k_is); (case k8 => ktr_room); (case k9 => exact BindsTo.of_eq rfl); (case c5 => decide); (case kB => exact locs rfl); (case c2 => exact rfl); (case c3 => exact rfl); (case c4 => exact rfl); k_whole; intro g' L' h' FG' F' N' B' X' T'; (try dsimp only); (try k_lift B'); (try k_fold))))
  (k_with "exec Raise some none" => (k_here; exfalso; (with_reducible rename outOf _ = Out.port _ => ho9); k_dflt (first | exact nr ho9 (out_reply (by assumption)) | exact np ho9 (out_open (by assumption) (by assumption)) | exact np ho9 (out_close (by assumption) (by assumption) (by assumption)) | exact np ho9 (out_marks (by assumption) (by assumption) (by assumption) (by assumption)) | exact np ho9 (out_parts (by assumption) (by assumption) (by assumption) (by assumption) (by assumption) (by assumption)))))
  (k_with "call type:int" => (k_here; (with_reducible rename outOf _ = Out.port _ => ho9); refine KIN.call_text (port_text ho9 (by assumption) (by assumption)) (port_short (by assumption) (by assumption) (by assumption) (by assumption)) ?_))
  k_steps
  exact told_endP hret (by assumption) (by assumption) (by assumption)
end Mine
end

section
open PySem PySem.W PyProof.Rows PySem.Calls
namespace Mine
theorem fd_pow {prog : Program} {w : World} {A : Around} {E : Value → Shared → Prop} {s : Shared} {Q : Value → Shared → Prop} {a k : Int} {t u : Tok} (h0 : 0 ≤ k) (hk : k < 30)
    (h : Q (.int (a.fdiv (2 ^ k.toNat)) s.toks) { s with toks := s.toks + 1 }) :
    wpAny (model prog w) A (binaryOp .FloorDiv (.int a t) (.int (2 ^ k.toNat) u)) Q E s := by
  have hp : (2 : Int) ^ k.toNat ≠ 0 := by
    have : (0 : Int) < 2 ^ k.toNat := Int.pow_pos (by decide)
    omega
  refine floordiv_int hp h (Or.inl (PyProof.noPylong_small ?_))
  have e : ((2 : Int) ^ k.toNat).natAbs = 2 ^ k.toNat := by rw [Int.natAbs_pow]; rfl
  rw [e]
  have : (1073741824 : Nat) = 2 ^ 30 := by decide
  rw [this]
  exact Nat.pow_lt_pow_right (by decide) (by omega)
end Mine
end

section
open PySem PySem.W PyProof.Rows PySem.Calls
namespace Mine
/-- the law's own body and scope, out of the given row -/
def lawBody : List Stmt := match _root_.PySem.Challenge.pw_rl0004_01.main.body.getLast? with
  | some (.FunctionDef _ _ b _ _ _ _ _ _ _) => b
  | _ => []
def lawScope : Scope := match _root_.PySem.Challenge.pw_rl0004_01.main.body.getLast? with
  | some (.FunctionDef _ _ _ _ _ _ sc _ _ _) => sc
  | _ => default
def lawAt (i : Nat) : Stmt := lawBody.getD i (.Pass default)
def forBody : Stmt → List Stmt
  | .For _ _ b _ _ => b
  | _ => []
def outerBody : List Stmt := forBody (lawAt 8)
def outerAt (i : Nat) : Stmt := outerBody.getD i (.Pass default)
def innerBody : List Stmt := forBody (outerAt 9)
abbrev lawEnv (L fa : Addr) (cd : Value) : Env := envOfC (Str.ofString "law") lawScope L fa cd
abbrev lawA (L fa : Addr) (cd : Value) : Around := callerA.deeper (lawEnv L fa cd)
end Mine
end

section
open PySem PySem.W PyProof.Rows PySem.Calls
open Sem (wp)
namespace Mine
section
variable {prog : Program} {w : World} {A : Around} {E : Value → Shared → Prop} {s : Shared} {env : Env}
/-- a for loop in wpC whose body lets nothing out -/
theorem codeC_for {R : Result → Shared → Prop} {target : Expr} {body orelse : List Stmt} {I : Addr} {fp wr : List Addr} {n : Nat} {P : Nat → Value → Prop} {St : Nat → Heap → Prop} (W : Walks prog w A I fp wr n P St) (Inv : Nat → Shared → Prop)
    (hst : ∀ i s', Inv i s' → St i s'.heap)
    (go : ∀ i s' v h₁ tk₁, i < n → Inv i s' → P i v → St (i + 1) h₁ → (∀ b o, b ∉ wr → s'.heap.get? b = some o → h₁.get? b = some o) →
      wpAny (model prog w) A (letOwnedTupleGo target (.ref I) v) (fun _ s₁ => wpAny (model prog w) A (assign target env v) (fun _ s₂ => wpC (model prog w) A (execs body env) (fun f s₃ => match f with
        | .next | .cont => Inv (i + 1) s₃
        | .brk => R (.ok .next) s₃
        | .ret v => R (.ok (.ret v)) s₃) (fun _ _ => False) s₂) (fun _ _ => False) s₁) (fun _ _ => False) { s' with heap := h₁, toks := tk₁ })
    (done : ∀ s' h₁ tk₁, Inv n s' → (∀ b o, b ∉ wr → s'.heap.get? b = some o → h₁.get? b = some o) → codeC (model prog w) A (.block orelse env) R { s' with heap := h₁, toks := tk₁ })
    (h0 : Inv 0 s) : codeC (model prog w) A (.forLoop target (.ref I) body orelse env) R s := by
  refine codeC_loop (fun k s' => ∃ i, i ≤ n ∧ k = n + 1 - i ∧ Inv i s') rfl ?_ (n + 1) s ⟨0, Nat.zero_le _, rfl, h0⟩
  rintro k s' ⟨i, hi, rfl, hI⟩
  show wpC _ A ((forTurn target (.ref I) body orelse env).onRaise (fun x => do noteFrame x env; theTreesLotGoes x)) _ _ s'
  refine wpC_onRaise (wpC_mono ?_ (fun _ _ h => h) (fun _ _ (h : False) => h.elim))
  simp only [forTurn]
  refine wpC_cut (wpAny_standAt (wpC_cut (wpAny_onRaise ?_)))
  by_cases hlt : i < n
  · refine W.item i _ _ _ hlt (hst _ _ hI) fun v h₁ tk₁ hP hst₁ hk₁ => ?_
    refine wpC_cut (wpAny_mono (go i s' v h₁ tk₁ hlt hI hP hst₁ hk₁) (fun _ s₁ h₁ => wpC_cut (wpAny_mono h₁ (fun _ s₂ h₂ => wpC_bind (wpC_mono h₂ (fun f s₃ h₃ => wpC_of ?_) fun _ _ x => x)) fun _ _ x => x)) fun _ _ x => x)
    cases f with
    | next => exact wpAny_pure (.inl ⟨rfl, _, by omega, i + 1, hlt, rfl, h₃⟩)
    | cont => exact wpAny_pure (.inl ⟨rfl, _, by omega, i + 1, hlt, rfl, h₃⟩)
    | brk => exact wpAny_pure h₃
    | ret v => exact wpAny_pure h₃
  · have hin : i = n := by omega
    subst hin
    refine W.done _ _ _ (hst _ _ hI) fun h₁ tk₁ hk₁ => wpC_of (wpAny_pure (.inr ⟨rfl, done s' h₁ tk₁ hI hk₁⟩))
theorem codeC_block {body : List Stmt} {R : Result → Shared → Prop} (h : codeAny (model prog w) A (.block body env) R s) : codeC (model prog w) A (.block body env) R s := codeC_of h
theorem forC {target iter : Expr} {pos : Pos} {body : List Stmt} {Q : Flow → Shared → Prop}
    (h : wpAny (model prog w) A (eval iter env) (fun x s₁ => wpAny (model prog w) A (pyIter x) (fun it s₂ =>
      codeC (model prog w) A (.forLoop target it body [] env) (fun r s' => match r with | .ok f => Q f s' | .error e => False) s₂) E s₁) E s)
    (hs : ∀ x, foldedSetIterable iter env x = pure x) (hh : A.handled = none) :
    wpC (model prog w) A (exec (.For target iter body [] pos) env) Q E s := by
  rw [exec_For]
  refine wpC_cut (wpAny_standAt (wpC_cut (wpAny_mono h (fun x s₁ h₁ => wpC_cut (wpAny_of_eq (hs x) (wpC_cut (wpAny_standAt (wpC_cut (wpAny_holding (wpAny_mono h₁ (fun it s₂ h₂ => ?_) fun _ _ x => x))))))) fun _ _ x => x)))
  unfold runOwn
  refine wpC_onRaise (wpC_run (codeC_mono (A := A.mark none) ?_ (R := fun r s' => match r with | .ok f => Q f s' | .error e => False) fun r s h => ?_))
  · have e : A.mark none = A := by cases A; cases hh; rfl
    rw [e]; exact h₂
  · cases r with
    | ok f => exact h
    | error e => exact h.elim
end
end Mine
end

section
open PySem PySem.W PyProof.Rows PySem.Calls
open Sem (wp)
namespace Mine
theorem ne_mem {l : List (Addr × Obj)} {I a : Addr} {o : Obj} (h : ∀ p ∈ l, p.1 ≠ I) (hm : (a, o) ∈ l) : @Ne Nat a I := h _ hm
theorem ne_same {l l' : List (Addr × Obj)} {I : Addr} (h : ∀ p ∈ l, p.1 ≠ I) (e : l'.map (·.1) = l.map (·.1)) : ∀ p ∈ l', p.1 ≠ I := by
  intro p hp
  have hq : p.1 ∈ l.map (·.1) := e ▸ List.mem_map_of_mem hp
  obtain ⟨q, hq, e⟩ := List.mem_map.mp hq
  exact e ▸ h q hq
section
variable {prog : Program} {w : World} {A : Around} {E : Value → Shared → Prop} {s : Shared} {env : Env} {h₀ : Heap} {m : Str → Option Value}
/-- a turn's end: the invariant holds anew, the iterator stands -/
def TurnDone (s : Shared) (h₀ : Heap) (L I : Addr) (oI : Obj) (P : (Str → Option Value) → List (Addr × Obj) → Prop) (s₃ : Shared) : Prop :=
  ∃ h' tk' m'' led'', s₃ = { s with heap := h', toks := tk' } ∧ Fr h₀ L h' m'' ∧ News h₀ L h' ((I, oI) :: led'') ∧ (∀ p ∈ led'', p.1 ≠ I) ∧ P m'' led''
theorem TurnDone.intro {s : Shared} {h₀ h' : Heap} {L I : Addr} {oI : Obj} {P : (Str → Option Value) → List (Addr × Obj) → Prop} {tk' : Nat} {m'' : Str → Option Value} (led'' : List (Addr × Obj)) (F : Fr h₀ L h' m'') (N : News h₀ L h' ((I, oI) :: led'')) (hne : ∀ p ∈ led'', p.1 ≠ I) (hP : P m'' led'') :
    TurnDone s h₀ L I oI P { s with heap := h', toks := tk' } := ⟨h', tk', m'', led'', rfl, F, N, hne, hP⟩
/-- a for over a range in wpC, by an invariant of the frame's map and the ledger -/
theorem rangeC {x : Str} {pos : Pos} {body : List Stmt} {Q : Flow → Shared → Prop} {r : Addr} {a₀ b₀ : Int} {t₀ u₀ v₀ : Tok} {n : Nat} {led : List (Addr × Obj)} (Inv : Nat → (Str → Option Value) → List (Addr × Obj) → Prop)
    (hh : A.handled = none) (hr : IsRange s.heap r a₀ b₀ 1 t₀ u₀ v₀) (hsmall : Builtin.Range.small a₀ b₀ 1 = true) (hn : Builtin.Range.rangeSize a₀ b₀ 1 = (n : Int))
    (F : Fr h₀ env.locals s.heap m) (N : News h₀ env.locals s.heap led) (h0 : Inv 0 m led)
    (turn : ∀ i m' led' h tk I oI t, i < n → Inv i m' led' → Fr h₀ env.locals h m' → News h₀ env.locals h ((I, oI) :: led') → (∀ p ∈ led', p.1 ≠ I) →
      wpAny (model prog w) A (assign (.Name x pos) env (.int (a₀ + (i : Int)) t)) (fun _ s₂ => wpC (model prog w) A (execs body env) (fun f s₃ => match f with
        | .next | .cont => TurnDone s h₀ env.locals I oI (Inv (i + 1)) s₃
        | .brk => False
        | .ret v => Q (.ret v) s₃) (fun _ _ => False) s₂) (fun _ _ => False) { s with heap := h, toks := tk })
    (done : ∀ m' led' h tk, Inv n m' led' → Fr h₀ env.locals h m' → News h₀ env.locals h led' → Q .next { s with heap := h, toks := tk }) :
    wpAny (model prog w) A (pyIter (.ref r)) (fun it s₂ => codeC (model prog w) A (.forLoop (.Name x pos) it body [] env) (fun r s' => match r with | .ok f => Q f s' | .error _ => False) s₂) E s := by
  refine wpAny_pyIter_range hr hsmall ?_
  have W : Walks prog w A s.heap.objs.size [s.heap.objs.size] [s.heap.objs.size] n (fun i v => i < n ∧ ∃ t, v = .int (a₀ + i * 1) t)
      (fun i h => IsRangeIter h s.heap.objs.size (a₀ + (i : Nat) * 1) ((n : Int) - (i : Nat)) 1) := (Walks.range hh _ a₀ 1 n).bound
  have hnew : h₀.get? s.heap.objs.size = none := next_is_new F
  have hL : env.locals ≠ s.heap.objs.size := fun e => absurd F.ns.lt (e ▸ Nat.lt_irrefl _)
  have keepF : ∀ {h h₁ : Heap} {m' : Str → Option Value}, Fr h₀ env.locals h m' → (∀ b o, b ∉ [s.heap.objs.size] → h.get? b = some o → h₁.get? b = some o) → Fr h₀ env.locals h₁ m' := fun F' hk =>
    ⟨F'.ns.at' fun o e => hk _ o (fun q => hL (List.mem_singleton.mp q)) e, fun b o e => hk b o (fun q => by rw [List.mem_singleton.mp q, hnew] at e; cases e) (F'.keep b o e), F'.above⟩
  have keepN : ∀ {h h₁ : Heap} {l : List (Addr × Obj)}, News h₀ env.locals h l → (∀ p ∈ l, p.1 ≠ s.heap.objs.size) → (∀ b o, b ∉ [s.heap.objs.size] → h.get? b = some o → h₁.get? b = some o) → News h₀ env.locals h₁ l := fun N' hne hk p hp =>
    ⟨hk _ _ (fun q => hne p hp (List.mem_singleton.mp q)) (N' p hp).1, (N' p hp).2⟩
  refine codeC_for W (fun i s' => ∃ h tk m' led', s' = { s with heap := h, toks := tk } ∧ IsRangeIter h s.heap.objs.size (a₀ + (i : Nat) * 1) ((n : Int) - (i : Nat)) 1 ∧ Fr h₀ env.locals h m' ∧ News h₀ env.locals h led' ∧ (∀ p ∈ led', p.1 ≠ s.heap.objs.size) ∧ Inv i m' led')
    (fun i s' ⟨h, tk, m', led', e, hi, _⟩ => by subst e; exact hi) ?_ ?_ ?_
  · rintro i s' v h₁ tk₁ hlt ⟨h, tk, m', led', rfl, _, F', N', hne, hI⟩ ⟨_, t, rfl⟩ hst hk
    refine wpAny_pure (a := ()) ?_
    have e1 : a₀ + (i : Int) * 1 = a₀ + (i : Int) := by omega
    rw [e1]
    refine wpAny_mono (turn i m' led' h₁ tk₁ s.heap.objs.size { cls := .type "range_iterator", dict := none, data := .fields #[rawInt (a₀ + ((i + 1 : Nat) : Int) * 1), rawInt ((n : Int) - ((i + 1 : Nat) : Int)), rawInt 1], slots := #[] } t hlt hI (keepF F' hk) (fun p hp => ?_) hne) (fun _ s₂ h₂ => wpC_mono h₂ (fun f s₃ h₃ => ?_) fun _ _ x => x) fun _ _ x => x
    · rcases List.mem_cons.mp hp with rfl | hp
      · exact ⟨hst, hL.symm, hnew⟩
      · exact keepN N' hne hk p hp
    · have fin : (∃ h' tk' m'' led'', s₃ = { s with heap := h', toks := tk' } ∧ Fr h₀ env.locals h' m'' ∧ News h₀ env.locals h' ((s.heap.objs.size, { cls := .type "range_iterator", dict := none, data := .fields #[rawInt (a₀ + ((i + 1 : Nat) : Int) * 1), rawInt ((n : Int) - ((i + 1 : Nat) : Int)), rawInt 1], slots := #[] }) :: led'') ∧ (∀ p ∈ led'', p.1 ≠ s.heap.objs.size) ∧ Inv (i + 1) m'' led'') →
          ∃ h tk m' led', s₃ = { s with heap := h, toks := tk } ∧ IsRangeIter h s.heap.objs.size (a₀ + ((i + 1 : Nat) : Int) * 1) ((n : Int) - ((i + 1 : Nat) : Int)) 1 ∧ Fr h₀ env.locals h m' ∧ News h₀ env.locals h led' ∧ (∀ p ∈ led', p.1 ≠ s.heap.objs.size) ∧ Inv (i + 1) m' led' := by
        rintro ⟨h', tk', m'', led'', rfl, F'', N'', hne'', hI''⟩
        exact ⟨h', tk', m'', led'', rfl, (N'' _ (.head _)).1, F'', fun p hp => N'' p (.tail _ hp), hne'', hI''⟩
      cases f with
      | next => exact fin h₃
      | cont => exact fin h₃
      | brk => exact h₃.elim
      | ret v => exact h₃
  · rintro s' h₁ tk₁ ⟨h, tk, m', led', rfl, _, F', N', hne, hI⟩ hk
    refine codeC_of (codeAny_block (wpAny_execs_nil ?_))
    exact done m' led' h₁ tk₁ hI (keepF F' hk) (keepN N' hne hk)
  · refine ⟨_, s.toks, m, led, rfl, ?_, F.push _, fun p hp => ⟨Heap.get?_push_of_some _ (N p hp).1, (N p hp).2⟩, fun p hp e => absurd (Heap.lt_size (N p hp).1) (e ▸ Nat.lt_irrefl _), h0⟩
    show IsRangeIter _ _ _ _ _
    rw [hn]
    simpa using Heap.get?_push_size _ rfl
/-- a for over a list of the ledger in wpC -/
theorem listC {x : Str} {pos : Pos} {body : List Stmt} {Q : Flow → Shared → Prop} {t : Addr} {items : Array Value} {n : Nat} {led : List (Addr × Obj)} (Inv : Nat → (Str → Option Value) → List (Addr × Obj) → Prop)
    (hh : A.handled = none) (hm : ∀ i m' led', Inv i m' led' → (t, listOf items n) ∈ led')
    (F : Fr h₀ env.locals s.heap m) (N : News h₀ env.locals s.heap led) (h0 : Inv 0 m led)
    (turn : ∀ i v m' led' h tk I oI, items[i]? = some v → Inv i m' led' → Fr h₀ env.locals h m' → News h₀ env.locals h ((I, oI) :: led') → (∀ p ∈ led', p.1 ≠ I) →
      wpAny (model prog w) A (assign (.Name x pos) env v) (fun _ s₂ => wpC (model prog w) A (execs body env) (fun f s₃ => match f with
        | .next | .cont => TurnDone s h₀ env.locals I oI (Inv (i + 1)) s₃
        | .brk => False
        | .ret v => Q (.ret v) s₃) (fun _ _ => False) s₂) (fun _ _ => False) { s with heap := h, toks := tk })
    (done : ∀ m' led' h tk, Inv items.size m' led' → Fr h₀ env.locals h m' → News h₀ env.locals h led' → Q .next { s with heap := h, toks := tk }) :
    wpAny (model prog w) A (pyIter (.ref t)) (fun it s₂ => codeC (model prog w) A (.forLoop (.Name x pos) it body [] env) (fun r s' => match r with | .ok f => Q f s' | .error _ => False) s₂) E s := by
  have hin := N _ (hm _ _ _ h0)
  have ht : s.heap.IsList t items := ⟨_, hin.1, rfl, n, rfl⟩
  have hlt : t < s.heap.objs.size := Heap.lt_size hin.1
  refine wpAny_pyIter_list ht ?_
  have W := Walks.list (prog := prog) (w := w) hh s.heap.objs.size t (Nat.ne_of_lt hlt) items
  have hnew : h₀.get? s.heap.objs.size = none := next_is_new F
  have hL : env.locals ≠ s.heap.objs.size := fun e => absurd F.ns.lt (e ▸ Nat.lt_irrefl _)
  have keepF : ∀ {h h₁ : Heap} {m' : Str → Option Value}, Fr h₀ env.locals h m' → (∀ b o, b ∉ [s.heap.objs.size] → h.get? b = some o → h₁.get? b = some o) → Fr h₀ env.locals h₁ m' := fun F' hk =>
    ⟨F'.ns.at' fun o e => hk _ o (fun q => hL (List.mem_singleton.mp q)) e, fun b o e => hk b o (fun q => by rw [List.mem_singleton.mp q, hnew] at e; cases e) (F'.keep b o e), F'.above⟩
  have keepN : ∀ {h h₁ : Heap} {l : List (Addr × Obj)}, News h₀ env.locals h l → (∀ p ∈ l, p.1 ≠ s.heap.objs.size) → (∀ b o, b ∉ [s.heap.objs.size] → h.get? b = some o → h₁.get? b = some o) → News h₀ env.locals h₁ l := fun N' hne hk p hp =>
    ⟨hk _ _ (fun q => hne p hp (List.mem_singleton.mp q)) (N' p hp).1, (N' p hp).2⟩
  refine codeC_for W (fun i s' => ∃ h tk m' led', s' = { s with heap := h, toks := tk } ∧ h.IsListIter s.heap.objs.size t i ∧ Fr h₀ env.locals h m' ∧ News h₀ env.locals h led' ∧ (∀ p ∈ led', p.1 ≠ s.heap.objs.size) ∧ Inv i m' led')
    (fun i s' ⟨h, tk, m', led', e, hi, _, N', _, hI⟩ => by subst e; exact ⟨hi, _, (N' _ (hm _ _ _ hI)).1, rfl, n, rfl⟩) ?_ ?_ ?_
  · rintro i s' v h₁ tk₁ hlt ⟨h, tk, m', led', rfl, _, F', N', hne, hI⟩ hv ⟨⟨oI, hoI, hcI, hdI⟩, _⟩ hk
    refine wpAny_pure (a := ()) ?_
    refine wpAny_mono (turn i v m' led' h₁ tk₁ s.heap.objs.size oI hv hI (keepF F' hk) (fun p hp => ?_) hne) (fun _ s₂ h₂ => wpC_mono h₂ (fun f s₃ h₃ => ?_) fun _ _ x => x) fun _ _ x => x
    · rcases List.mem_cons.mp hp with rfl | hp
      · exact ⟨hoI, hL.symm, hnew⟩
      · exact keepN N' hne hk p hp
    · have fin : TurnDone s h₀ env.locals s.heap.objs.size oI (Inv (i + 1)) s₃ →
          ∃ h tk m' led', s₃ = { s with heap := h, toks := tk } ∧ h.IsListIter s.heap.objs.size t (i + 1) ∧ Fr h₀ env.locals h m' ∧ News h₀ env.locals h led' ∧ (∀ p ∈ led', p.1 ≠ s.heap.objs.size) ∧ Inv (i + 1) m' led' := by
        rintro ⟨h', tk', m'', led'', rfl, F'', N'', hne'', hI''⟩
        exact ⟨h', tk', m'', led'', rfl, ⟨oI, (N'' _ (.head _)).1, hcI, hdI⟩, F'', fun p hp => N'' p (.tail _ hp), hne'', hI''⟩
      cases f with
      | next => exact fin h₃
      | cont => exact fin h₃
      | brk => exact h₃.elim
      | ret v => exact h₃
  · rintro s' h₁ tk₁ ⟨h, tk, m', led', rfl, _, F', N', hne, hI⟩ hk
    refine codeC_of (codeAny_block (wpAny_execs_nil ?_))
    exact done m' led' h₁ tk₁ hI (keepF F' hk) (keepN N' hne hk)
  · refine ⟨_, s.toks, m, led, rfl, ?_, F.push _, fun p hp => ⟨Heap.get?_push_of_some _ (N p hp).1, (N p hp).2⟩, fun p hp e => absurd (Heap.lt_size (N p hp).1) (e ▸ Nat.lt_irrefl _), h0⟩
    exact ⟨_, Heap.get?_push_size _ rfl, rfl, rfl⟩
end
end Mine
end

section
open PySem PySem.W PyProof.Rows PySem.Calls
open Sem (wp)
namespace Mine
/-- a def with cells entered in wpC from the top -/
theorem call_cellsC {prog : Program} {w : World} {A : Around} {R : Result → Shared → Prop} {s : Shared} {name : Str} {params : Arguments} {body : List Stmt} {scope : Scope}
    {pm cd doc : Value} {a : Addr} {o : Obj} {args : List Value} {binds : List (Str × Value)}
    (hroom : A.depth < recursionLimit) (ho : s.heap.get? a = some o) (hdata : o.data = .func (Calls.docDef name params body scope pm cd doc)) (hlim : s.heap.NoLimit) (hcd : s.heap.CodeRec cd name)
    (hbind : bindArgs (Calls.docDef name params body scope pm cd doc) ⟨args, []⟩ = pure binds)
    (hkind : ∀ x ∈ binds, scope.names.lookup x.1 = some .local ∨ (scope.names.lookup x.1 = some .cell ∧ ((cellsFrom (s.heap.objs.size + 1) scope.names []).lookup x.1).isSome = true))
    (hnd : ((cellsFrom 0 scope.names []).map (·.1)).Nodup)
    (h : ∀ h₁ tk cells, Fr s.heap s.heap.objs.size h₁ (bindL (envOfC name scope s.heap.objs.size a cd).kindOf binds fun _ => none) → News s.heap s.heap.objs.size h₁ cells →
      CellsAre (bindC (envOfC name scope s.heap.objs.size a cd).kindOf binds fun _ => none) (cellsFrom (s.heap.objs.size + 1) scope.names []) cells →
      wpC (model prog w) (A.deeper (envOfC name scope s.heap.objs.size a cd)) (execs body (envOfC name scope s.heap.objs.size a cd))
        (fun f s' => R (.ok (.ret (match f with | .ret v => v | _ => .none))) s') (fun _ _ => False) { s with heap := h₁, toks := tk })
    (hco : scope.isCoroutine = false := by rfl) (hgen : scope.isGenerator = false := by rfl) (hk : scope.kind = .function := by rfl) :
    codeC (model prog w) A (.call (.ref a) ⟨args, []⟩) R s := by
  refine codeC_call_function (fd := Calls.docDef name params body scope pm cd doc) hroom ho hdata hco hgen rfl hcd ?_
  rw [hbind]
  refine wpAny_pure (wpAny_newFunctionEnv_cells hk hkind fun env he s' x => ?_)
  subst he
  refine ⟨hlim.keeps x.toInCall.keep, codeC_func ?_⟩
  obtain ⟨h₁, tk, rfl, _⟩ := x.done
  obtain ⟨cells, N, Y⟩ := Cl.news (h₀ := s.heap) (Nat.le_refl _) fun n c hm => ⟨x.cell n c (lookup_of_mem_nodup (cellsFrom_names scope.names 0 (s.heap.objs.size + 1) [] [] rfl ▸ hnd) hm), x.above n c hm⟩
  exact wpC_mono (h h₁ tk cells ⟨x.toInCall.ns, x.toInCall.keep, x.toInCall.fresh⟩ N Y) (fun _ _ z => z) fun _ _ z => z.elim
theorem enter_callC {M : Model} {A : Around} {s : Shared} {f : Value} {pos : List Value} {kw : List (Str × Value)} {c : ClaimW} {cl : Str → Option Addr} {mean : ExcName → Option Value} {args : List WData} {s₁ : Shared} {E : Value → Shared → Prop}
    (h : codeC M A (.call f ⟨pos, kw⟩) (fun r s' => match r with | .ok (.ret v) => GoodWG c cl mean args s₁ (.ok (.ret v)) s' | _ => False) s) : wpC M A (PySem.call f pos kw) (fun v s' => GoodWG c cl mean args s₁ (.ok (.ret v)) s') E s :=
  wpC_call (codeC_mono h fun res s' g => by
    cases res with
    | ok fl => cases fl <;> first | exact g | exact g.elim
    | error e => exact g.elim)
end Mine
end

section
open PySem PySem.W PyProof.Rows PySem.Calls
namespace Mine
theorem k_cases {k : Int} (h1 : 1 ≤ k) (h7 : k ≤ 7) : k = 1 ∨ k = 2 ∨ k = 3 ∨ k = 4 ∨ k = 5 ∨ k = 6 ∨ k = 7 := by omega
theorem hbx_all : ∀ a ∈ [1, 2, 3, 4, 5, 6, 7], ∀ b ∈ [1, 2, 3, 4, 5, 6, 7], a < b → (0 : Int) ≤ ((Builtin.Int.intBits (Builtin.bitXor a b) : Nat) : Int) - 1 ∧ ((Builtin.Int.intBits (Builtin.bitXor a b) : Nat) : Int) - 1 ≤ (2 : Int) := by decide +kernel
theorem k_mem7 {k : Int} (h1 : 1 ≤ k) (h7 : k ≤ 7) : k ∈ ([1, 2, 3, 4, 5, 6, 7] : List Int) := by
  rcases k_cases h1 h7 with rfl | rfl | rfl | rfl | rfl | rfl | rfl <;> decide
theorem hbx_both {j k : Int} (h1 : 1 ≤ j) (h2 : j < k) (h7 : k ≤ 7) : 0 ≤ ((Builtin.Int.intBits (Builtin.bitXor j k) : Nat) : Int) - 1 ∧ ((Builtin.Int.intBits (Builtin.bitXor j k) : Nat) : Int) - 1 ≤ 2 :=
  hbx_all j (k_mem7 h1 (by omega)) k (k_mem7 (by omega) h7) h2
theorem hbi_both {j k : Int} (h1 : 1 ≤ j) (h2 : j < k) (h7 : k ≤ 7) : 0 ≤ ((Builtin.Int.intBits j : Nat) : Int) - 1 ∧ ((Builtin.Int.intBits j : Nat) : Int) - 1 ≤ 2 := by
  have h : j = 1 ∨ j = 2 ∨ j = 3 ∨ j = 4 ∨ j = 5 ∨ j = 6 := by omega
  rcases h with rfl | rfl | rfl | rfl | rfl | rfl <;> decide +kernel
theorem hbx_lo {j k : Int} (h1 : 1 ≤ j) (h2 : j < k) (h7 : k ≤ 7) : 0 ≤ ((Builtin.Int.intBits (Builtin.bitXor j k) : Nat) : Int) - 1 := (hbx_both h1 h2 h7).1
theorem hbx_hi {j k : Int} (h1 : 1 ≤ j) (h2 : j < k) (h7 : k ≤ 7) : ((Builtin.Int.intBits (Builtin.bitXor j k) : Nat) : Int) - 1 ≤ 2 := (hbx_both h1 h2 h7).2
theorem hbi_lo {j k : Int} (h1 : 1 ≤ j) (h2 : j < k) (h7 : k ≤ 7) : 0 ≤ ((Builtin.Int.intBits j : Nat) : Int) - 1 := (hbi_both h1 h2 h7).1
theorem hbi_hi {j k : Int} (h1 : 1 ≤ j) (h2 : j < k) (h7 : k ≤ 7) : ((Builtin.Int.intBits j : Nat) : Int) - 1 ≤ 2 := (hbi_both h1 h2 h7).2
theorem len8_left {j k p0 p1 p2 p3 p4 p5 p6 p7 : Int} (h1 : 1 ≤ j) (h2 : j < k) (h7 : k ≤ 7) : (List.take j.toNat [p0, p1, p2, p3, p4, p5, p6, p7] ++ [0] ++ List.take (min k.toNat [p0, p1, p2, p3, p4, p5, p6, p7].length - (j + 1).toNat) (List.drop (j + 1).toNat [p0, p1, p2, p3, p4, p5, p6, p7]) ++ [0] ++ List.drop (k + 1).toNat [p0, p1, p2, p3, p4, p5, p6, p7]).length = 8 := by
  simp only [List.length_append, List.length_take, List.length_drop, List.length_cons, List.length_nil]; omega
theorem len8_left1 {j k p0 p1 p2 p3 p4 p5 p6 p7 v : Int} {i : Nat} (h1 : 1 ≤ j) (h2 : j < k) (h7 : k ≤ 7) : ((List.take j.toNat [p0, p1, p2, p3, p4, p5, p6, p7] ++ [0] ++ List.take (min k.toNat [p0, p1, p2, p3, p4, p5, p6, p7].length - (j + 1).toNat) (List.drop (j + 1).toNat [p0, p1, p2, p3, p4, p5, p6, p7]) ++ [0] ++ List.drop (k + 1).toNat [p0, p1, p2, p3, p4, p5, p6, p7]).set i v).length = 8 := by
  rw [List.length_set]; exact len8_left h1 h2 h7
theorem idx8 {k : Int} {l : List Int} (h7 : k ≤ 7) (h : l.length = 8) : k < (l.length : Int) := by rw [h]; omega
theorem small63 {k : Int} (h7 : k ≤ 7) : k < 2 ^ 63 := by
  have : (2 : Int) ^ 63 = 9223372036854775808 := by decide
  omega
end Mine
end

section
open PySem PySem.W PyProof.Rows
namespace Mine
def wholeT (mk : Str) (k x : Int) : Str := Str.ofString "229 (" ++ mk ++ Str.ofString (toString k) ++ Txt.mul mk 2 ++ Str.ofString (toString x) ++ mk ++ Str.ofString ")"
theorem whole_ys {ys : List Value} {mk : Str} {k x0 x1 : Int} {c : Int → Prop} [h : ∀ x, Decidable (c x)] (hc : CarriedAll ys (List.map (fun x => PyData.str (if c x then wholeT mk k x else Str.empty)) [x0, x1])) (c0 : c x0) (c1 : c x1) :
    ∃ t0 t1, ys = [.str (wholeT mk k x0) t0, .str (wholeT mk k x1) t1] := by
  simp only [List.map_cons, List.map_nil, if_pos c0, if_pos c1] at hc
  cases hc with
  | cons a r =>
    cases r with
    | cons b r =>
      cases r
      cases a
      cases b
      exact ⟨_, _, rfl⟩
end Mine
end

section
open PySem PySem.W PyProof.Rows
namespace Mine
theorem or_and_xor : ∀ (a b : Nat), (a ||| b) = (a &&& b) + (a ^^^ b) := by
  intro a
  induction a using Nat.strongRecOn with
  | _ a ih =>
    intro b
    by_cases h : a = 0
    · subst h; simp
    · have h1 := ih (a / 2) (by omega) (b / 2)
      have e1 : (a ||| b) / 2 = a / 2 ||| b / 2 := by rw [Nat.or_div_two]
      have e2 : (a &&& b) / 2 = a / 2 &&& b / 2 := by rw [Nat.and_div_two]
      have e3 : (a ^^^ b) / 2 = a / 2 ^^^ b / 2 := by rw [Nat.xor_div_two]
      have m1 : (a ||| b) % 2 = 1 ↔ (a % 2 = 1 ∨ b % 2 = 1) := Nat.or_mod_two_eq_one
      have m2 : (a &&& b) % 2 = 1 ↔ (a % 2 = 1 ∧ b % 2 = 1) := Nat.and_mod_two_eq_one
      have m3 : (a ^^^ b) % 2 = 1 ↔ ¬ ((a % 2 = 1) ↔ (b % 2 = 1)) := Nat.xor_mod_two_eq_one
      have n1 : (a ||| b) = 2 * (a / 2 ||| b / 2) + (a ||| b) % 2 := by omega
      have n2 : (a &&& b) = 2 * (a / 2 &&& b / 2) + (a &&& b) % 2 := by omega
      have n3 : (a ^^^ b) = 2 * (a / 2 ^^^ b / 2) + (a ^^^ b) % 2 := by omega
      generalize (a ||| b) = x at *
      generalize (a &&& b) = y at *
      generalize (a ^^^ b) = z at *
      generalize (a / 2 ||| b / 2) = x' at *
      generalize (a / 2 &&& b / 2) = y' at *
      generalize (a / 2 ^^^ b / 2) = z' at *
      clear ih e1 e2 e3
      by_cases ha : a % 2 = 1 <;> by_cases hb : b % 2 = 1 <;> simp [ha, hb] at m1 m2 m3 <;> omega
theorem bxor_nat (a b : Nat) : Builtin.bitXor (a : Int) (b : Int) = ((a ^^^ b : Nat) : Int) := by
  have h1 : Builtin.bitOr (a : Int) (b : Int) = ((a ||| b : Nat) : Int) := by
    have ha : ¬ (0 : Int) ≤ Builtin.bitNot (a : Int) := by unfold Builtin.bitNot; omega
    have hb : ¬ (0 : Int) ≤ Builtin.bitNot (b : Int) := by unfold Builtin.bitNot; omega
    have ea : (Builtin.bitNot (Builtin.bitNot (a : Int))).toNat = a := by unfold Builtin.bitNot; omega
    have eb : (Builtin.bitNot (Builtin.bitNot (b : Int))).toNat = b := by unfold Builtin.bitNot; omega
    unfold Builtin.bitOr
    rw [bitAnd_nn ha hb, ea, eb]
    unfold Builtin.bitNot; omega
  have h2 : Builtin.bitAnd (a : Int) (b : Int) = ((a &&& b : Nat) : Int) := by
    rw [bitAnd_pp (Int.natCast_nonneg a) (Int.natCast_nonneg b)]
    rfl
  unfold Builtin.bitXor
  rw [h1, h2]
  have := or_and_xor a b
  omega
theorem to_nat {x : Int} (h : 0 ≤ x) : ∃ n : Nat, x = n := ⟨x.toNat, by omega⟩
theorem k_cases3 {k : Int} (h1 : 1 ≤ k) (h7 : k ≤ 7) : k = 1 ∨ k = 2 ∨ k = 3 ∨ k = 4 ∨ k = 5 ∨ k = 6 ∨ k = 7 := by omega
theorem single_bits {p : Int} (h0 : 0 ≤ p) (h1 : p < 1048576) : (if p = 0 then false else Builtin.bitAnd p (p - 1) == 0) = (List.map (fun k' : Int => (2 : Int) ^ k'.toNat) (rangeKs 0 ((20 : Int) - 0).toNat)).any fun x => x == p := by
  obtain ⟨n, rfl⟩ := to_nat h0
  have hn : n < 2 ^ 20 := by
    have : (2 : Nat) ^ 20 = 1048576 := by decide
    omega
  have hr : ((List.map (fun k' : Int => (2 : Int) ^ k'.toNat) (rangeKs 0 ((20 : Int) - 0).toNat)).any fun x => x == (n : Int)) = true ↔ ∃ i, i < 20 ∧ n = 2 ^ i := by
    rw [List.any_eq_true]
    constructor
    · rintro ⟨x, hx, hxe⟩
      obtain ⟨k, hk, rfl⟩ := List.mem_map.mp hx
      have hm := mem_rangeKs hk
      refine ⟨k.toNat, by omega, ?_⟩
      have e := beq_iff_eq.mp hxe
      have : ((2 ^ k.toNat : Nat) : Int) = (n : Int) := by push_cast; exact e
      omega
    · rintro ⟨i, hi, rfl⟩
      refine ⟨(2 : Int) ^ i, List.mem_map.mpr ⟨(i : Int), ?_, by simp⟩, by simp⟩
      have : rangeKs 0 ((20 : Int) - 0).toNat = (List.range 20).map fun (j : Nat) => (0 : Int) + (j : Int) := rfl
      rw [this]
      exact List.mem_map.mpr ⟨i, List.mem_range.mpr hi, by omega⟩
  by_cases hz : n = 0
  · subst hz
    have : ¬ ∃ i, i < 20 ∧ 0 = 2 ^ i := by
      rintro ⟨i, _, h⟩
      have := Nat.two_pow_pos i
      omega
    rw [if_pos (show ((0 : Nat) : Int) = 0 from rfl)]
    cases hb : ((List.map (fun k' : Int => (2 : Int) ^ k'.toNat) (rangeKs 0 ((20 : Int) - 0).toNat)).any fun x => x == ((0 : Nat) : Int)) with
    | false => rfl
    | true => exact absurd (hr.mp hb) this
  · rw [if_neg (by omega)]
    have e1 : (n : Int) - 1 = ((n - 1 : Nat) : Int) := by omega
    have e2 : Builtin.bitAnd (n : Int) ((n : Int) - 1) = ((n &&& (n - 1) : Nat) : Int) := by
      rw [e1, bitAnd_pp (Int.natCast_nonneg _) (Int.natCast_nonneg _)]
      rfl
    rw [e2]
    have hp := Nat.and_sub_one_eq_zero_iff_isPowerOfTwo hz
    have hq : (n &&& (n - 1)) = 0 ↔ ∃ i, i < 20 ∧ n = 2 ^ i := by
      rw [hp]
      constructor
      · rintro ⟨i, rfl⟩
        exact ⟨i, (Nat.pow_lt_pow_iff_right (by decide)).mp hn, rfl⟩
      · rintro ⟨i, _, rfl⟩
        exact ⟨i, rfl⟩
    rw [Bool.eq_iff_iff, hr, ← hq]
    simp only [beq_iff_eq]
    omega
theorem getD_bnd {p0 p1 p2 p3 p4 p5 p6 p7 k : Int} {P : Int → Prop} (hp : ∀ x ∈ [p0, p1, p2, p3, p4, p5, p6, p7], P x) (k1 : 1 ≤ k) (k7 : k ≤ 7) : P ([p0, p1, p2, p3, p4, p5, p6, p7].getD k.toNat 0) := by
  rcases k_cases3 k1 k7 with rfl | rfl | rfl | rfl | rfl | rfl | rfl <;> exact hp _ (by simp)
theorem single_pure {p0 p1 p2 p3 p4 p5 p6 p7 k : Int} (hp : ∀ x ∈ [p0, p1, p2, p3, p4, p5, p6, p7], 0 ≤ x ∧ x < 1048576) (k1 : 1 ≤ k) (k7 : k ≤ 7) :
    ¬ (((if [p0, p1, p2, p3, p4, p5, p6, p7].getD k.toNat 0 = 0 then false
      else Builtin.bitAnd ([p0, p1, p2, p3, p4, p5, p6, p7].getD k.toNat 0) ([p0, p1, p2, p3, p4, p5, p6, p7].getD k.toNat 0 - 1) == 0) !=
      (List.map (fun k' : Int => (2 : Int) ^ k'.toNat) (rangeKs 0 ((20 : Int) - 0).toNat)).any fun x => x == [p0, p1, p2, p3, p4, p5, p6, p7].getD k.toNat 0) = true) := by
  have h := getD_bnd (P := fun x => 0 ≤ x ∧ x < 1048576) hp k1 k7
  rw [single_bits h.1 h.2]
  simp
theorem count_bits {p : Int} (h0 : 0 ≤ p) : ∀ m : Nat, ((rangeKs 0 m).foldl (fun l' k' => if 0 < p.fdiv (2 ^ k'.toNat) then l' ++ [k'] else l') []).length = min m (Builtin.Int.intBits p) := by
  obtain ⟨n, rfl⟩ := to_nat h0
  have hb : ∀ m : Nat, (0 < (n : Int).fdiv (2 ^ ((0 : Int) + (m : Int)).toNat)) ↔ m < Builtin.Int.intBits (n : Int) := by
    intro m
    have e : ((0 : Int) + (m : Int)).toNat = m := by omega
    rw [e]
    have ed : (n : Int).fdiv (2 ^ m) = ((n / 2 ^ m : Nat) : Int) := by
      rw [Int.fdiv_eq_ediv_of_nonneg _ (by exact_mod_cast Nat.zero_le (2 ^ m))]
      push_cast
      rfl
    rw [ed]
    have hd : 0 < n / 2 ^ m ↔ 2 ^ m ≤ n := by
      rw [Nat.div_pos_iff]
      have := Nat.two_pow_pos m
      omega
    unfold Builtin.Int.intBits
    by_cases hz : n = 0
    · subst hz
      simp
    · have hz' : ((n : Int) == 0) = false := by
        rw [beq_eq_false_iff_ne]; omega
      rw [hz']
      have hl := Nat.le_log2 (n := n) (k := m) hz
      simp only [Bool.false_eq_true, if_false, Int.natAbs_natCast]
      omega
  intro m
  induction m with
  | zero => simp [rangeKs]
  | succ m ih =>
    have e : rangeKs 0 (m + 1) = rangeKs 0 m ++ [(0 : Int) + (m : Int)] := by
      unfold rangeKs
      rw [List.range_succ, List.map_append]
      rfl
    rw [e, List.foldl_append]
    simp only [List.foldl_cons, List.foldl_nil]
    by_cases hm : m < Builtin.Int.intBits (n : Int)
    · rw [if_pos ((hb m).mpr hm), List.length_append, ih]
      simp only [List.length_cons, List.length_nil]
      omega
    · rw [if_neg (fun h => hm ((hb m).mp h)), ih]
      omega
theorem bits_le {p : Int} (h0 : 0 ≤ p) (h1 : p < 1048576) : Builtin.Int.intBits p ≤ 20 := by
  unfold Builtin.Int.intBits
  split
  · omega
  · rename_i hz
    have hz' : p.natAbs ≠ 0 := by
      intro h
      apply hz
      have : p = 0 := by omega
      rw [this]; rfl
    have := (Nat.log2_lt (k := 20) hz').mpr (by have : (2 : Nat) ^ 20 = 1048576 := by decide
                                                omega)
    omega
theorem high_pure {p0 p1 p2 p3 p4 p5 p6 p7 k : Int} (hp : ∀ x ∈ [p0, p1, p2, p3, p4, p5, p6, p7], 0 ≤ x ∧ x < 1048576) (k1 : 1 ≤ k) (k7 : k ≤ 7) :
    ((Builtin.Int.intBits ([p0, p1, p2, p3, p4, p5, p6, p7].getD k.toNat 0) : Nat) : Int) - 1 =
      (((rangeKs 0 ((20 : Int) - 0).toNat).foldl (fun l' k' => if 0 < ([p0, p1, p2, p3, p4, p5, p6, p7].getD k.toNat 0).fdiv (2 ^ k'.toNat) then l' ++ [k'] else l') []).length : Int) - 1 := by
  have h := getD_bnd (P := fun x => 0 ≤ x ∧ x < 1048576) hp k1 k7
  have e20 : ((20 : Int) - 0).toNat = 20 := rfl
  rw [count_bits h.1, e20, Nat.min_eq_right (bits_le h.1 h.2)]
end Mine
end

section
open PySem PySem.W PyProof.Rows
open Builtin Builtin.Str StrLaws
namespace Mine
abbrev ofL (l : List Nat) : Str := ⟨l.toArray⟩
theorem ofL_len (l : List Nat) : (ofL l).length = l.length := by simp [PySem.Str.length]
theorem ofL_getD (l : List Nat) (v : Nat) : (ofL l).cps.getD v 0 = l.getD v 0 := by
  simp [Array.getD, List.getD_eq_getElem?_getD]
  split <;> simp_all
theorem ofL_list (l : List Nat) : (ofL l).cps.toList = l := by simp
theorem eq_ofL {x : Str} {l : List Nat} (h : x.cps.toList = l) : x = ofL l := by
  subst h
  exact PySem.Str.ext' (by simp)
theorem from_nat {n k : Nat} : fromIndex n (k : Int) = k := by
  unfold fromIndex
  rw [if_neg (by omega)]
  omega
theorem find3_at {pre mid post : List Nat} {c : Nat} (h : c ∉ mid) : Txt.find3 (ofL (pre ++ mid ++ c :: post)) ⟨#[c]⟩ (pre.length : Int) = ((pre.length + mid.length : Nat) : Int) := by
  have hc : (ofL (pre ++ mid ++ c :: post)).cps.getD (pre.length + mid.length) 0 = c := by
    rw [ofL_getD, List.getD_eq_getElem?_getD]
    simp [List.getElem?_append]
  have hl : (ofL (pre ++ mid ++ c :: post)).length = pre.length + mid.length + 1 + post.length := by
    rw [ofL_len]; simp; omega
  rcases find3_spec (ofL (pre ++ mid ++ c :: post)) c (pre.length : Int) with ⟨_, hn⟩ | ⟨k, hk, hlo, hlt, he, hn⟩
  · rw [from_nat] at hn
    exact absurd hc (hn _ (by omega) (by omega))
  · rw [from_nat] at hlo hn
    rw [hk]
    by_cases h1 : k < pre.length + mid.length
    · rw [ofL_getD, List.getD_eq_getElem?_getD] at he
      have e : (pre ++ mid ++ c :: post)[k]? = mid[k - pre.length]? := by
        rw [List.append_assoc, List.getElem?_append_right hlo, List.getElem?_append_left (by omega)]
      rw [e] at he
      have hk' : k - pre.length < mid.length := by omega
      rw [List.getElem?_eq_getElem hk'] at he
      exact absurd (he ▸ List.getElem_mem hk') h
    · by_cases h2 : pre.length + mid.length < k
      · exact absurd hc (hn _ (by omega) h2)
      · have : k = pre.length + mid.length := by omega
        rw [this]
theorem find3_no {pre post : List Nat} {c : Nat} (h : c ∉ post) : Txt.find3 (ofL (pre ++ post)) ⟨#[c]⟩ (pre.length : Int) = -1 := by
  have hl : (ofL (pre ++ post)).length = pre.length + post.length := by
    rw [ofL_len]; simp
  rcases find3_spec (ofL (pre ++ post)) c (pre.length : Int) with ⟨h0, _⟩ | ⟨k, hk, hlo, hlt, he, hn⟩
  · exact h0
  · rw [from_nat] at hlo
    rw [ofL_getD, List.getD_eq_getElem?_getD, List.getElem?_append_right hlo] at he
    have hk' : k - pre.length < post.length := by omega
    rw [List.getElem?_eq_getElem hk'] at he
    exact absurd (he ▸ List.getElem_mem hk') h
theorem find_is {x : Str} {y : Str} : Txt.find x y = Txt.find3 x y 0 := by
  have e : fromIndex x.length 0 = 0 := from_nat (k := 0)
  unfold Txt.find Txt.find3
  rw [e]
  cases occurrences x y 0 x.length 1 <;> rfl
theorem find_at {mid post : List Nat} {c : Nat} (h : c ∉ mid) : Txt.find (ofL (mid ++ c :: post)) ⟨#[c]⟩ = (mid.length : Int) := by
  rw [find_is]
  have := find3_at (pre := []) (post := post) h
  simpa using this
theorem find_no {post : List Nat} {c : Nat} (h : c ∉ post) : Txt.find (ofL post) ⟨#[c]⟩ = -1 := by
  rw [find_is]
  have := find3_no (pre := []) h
  simpa using this
theorem item_at {l : List Nat} {i : Nat} (h : i < l.length) : Txt.item (ofL l) (i : Int) = ofL [l.getD i 0] := by
  unfold Txt.item Txt.charAt
  rw [seqIndex_nonneg (by omega) (by rw [ofL_len]; omega)]
  have e : ((i : Int)).toNat = i := by omega
  rw [e]
  have : (ofL l).cps[i]? = some (l.getD i 0) := by
    simp [List.getD_eq_getElem?_getD, List.getElem?_eq_getElem h]
  show (⟨#[((ofL l).cps[i]?).getD 0]⟩ : Str) = _
  rw [this]
  rfl
theorem slice_is {x : Str} {l u : Option Int} : Txt.slice x l u = sliceText x l u := rfl
theorem slice_at {l : List Nat} {i j : Nat} (h : i ≤ j) (hj : j ≤ l.length) : Txt.slice (ofL l) (some (i : Int)) (some (j : Int)) = ofL ((l.drop i).take (j - i)) := by
  rw [slice_is, sliceText_nat (ofL l) h (by rw [ofL_len]; exact hj), ofL_list]
theorem slice_to {l : List Nat} {j : Nat} (hj : j ≤ l.length) : Txt.slice (ofL l) none (some (j : Int)) = ofL (l.take j) := by
  rw [slice_is, sliceText_to (x := ofL l) ⟨by omega, by rw [ofL_list]; omega⟩, ofL_list, List.drop_zero]
  congr 3
theorem slice_from {l : List Nat} {i : Nat} (hi : i ≤ l.length) : Txt.slice (ofL l) (some (i : Int)) none = ofL (l.drop i) := by
  rw [slice_is, sliceText_from (x := ofL l) ⟨by omega, by rw [ofL_list]; omega⟩, ofL_list]
  have e1 : ((i : Int)).toNat = i := by omega
  have e2 : ((l.length : Int) - (i : Int)).toNat = (l.drop i).length := by rw [List.length_drop]; omega
  rw [e1, e2, List.take_length]
theorem slice_to_neg {l : List Nat} {j : Nat} (h0 : 0 < j) (hj : j ≤ l.length) : Txt.slice (ofL l) none (some (-(j : Int))) = ofL (l.take (l.length - j)) := by
  have e := sliceText_neg_hi (ofL l) none (j := -(j : Int)) (by omega) (by rw [ofL_len]; omega)
  rw [slice_is, e, ofL_len]
  have e2 : -(j : Int) + (l.length : Int) = ((l.length - j : Nat) : Int) := by omega
  rw [e2]
  exact slice_to (by omega)
theorem slice_from_neg {l : List Nat} {j : Nat} (h0 : 0 < j) (hj : j ≤ l.length) : Txt.slice (ofL l) (some (-(j : Int))) none = ofL (l.drop (l.length - j)) := by
  have e := sliceText_neg_lo (ofL l) none (i := -(j : Int)) (by omega) (by rw [ofL_len]; omega)
  rw [slice_is, e, ofL_len]
  have e2 : -(j : Int) + (l.length : Int) = ((l.length - j : Nat) : Int) := by omega
  rw [e2]
  exact slice_from (by omega)
theorem slice_both_neg {l : List Nat} {i j : Nat} (h0 : 0 < j) (hj : i + j ≤ l.length) : Txt.slice (ofL l) (some (i : Int)) (some (-(j : Int))) = ofL ((l.drop i).take (l.length - j - i)) := by
  have e := sliceText_neg_hi (ofL l) (some (i : Int)) (j := -(j : Int)) (by omega) (by rw [ofL_len]; omega)
  rw [slice_is, e, ofL_len]
  have e2 : -(j : Int) + (l.length : Int) = ((l.length - j : Nat) : Int) := by omega
  rw [e2]
  exact slice_at (by omega) (by omega)
/-- joined by one sign -/
def joinL (c : Nat) : List (List Nat) → List Nat
  | [] => []
  | [a] => a
  | a :: b :: r => a ++ c :: joinL c (b :: r)
theorem join_list (c : Nat) : ∀ P : List Str, (Str.join ⟨#[c]⟩ P).cps.toList = joinL c (P.map fun p => p.cps.toList)
  | [] => rfl
  | [a] => rfl
  | a :: b :: r => by
    show (a ++ (⟨#[c]⟩ : Str) ++ Str.join ⟨#[c]⟩ (b :: r)).cps.toList = _
    have ih := join_list c (b :: r)
    simp only [List.map_cons] at ih
    simp only [PySem.Str.cps_append, Array.toList_append, ih, List.map_cons, joinL]
    simp
theorem cut_inj {c : Nat} : ∀ {a b X Y : List Nat}, c ∉ a → c ∉ b → a ++ c :: X = b ++ c :: Y → a = b ∧ X = Y
  | [], [], _, _, _, _, h => ⟨rfl, (List.cons.inj h).2⟩
  | [], y :: b, _, _, _, hb, h => by
    have := (List.cons.inj h).1
    exact absurd (this ▸ List.mem_cons_self) hb
  | x :: a, [], _, _, ha, _, h => by
    have := (List.cons.inj h).1
    exact absurd (this ▸ List.mem_cons_self) ha
  | x :: a, y :: b, _, _, ha, hb, h => by
    obtain ⟨h1, h2⟩ := List.cons.inj h
    obtain ⟨h3, h4⟩ := cut_inj (fun q => ha (.tail _ q)) (fun q => hb (.tail _ q)) h2
    exact ⟨by rw [h1, h3], h4⟩
theorem joinL_inj {c : Nat} : ∀ {P P' : List (List Nat)}, P ≠ [] → P' ≠ [] → (∀ p ∈ P, c ∉ p) → (∀ p ∈ P', c ∉ p) → joinL c P = joinL c P' → P = P'
  | [], _, h, _, _, _, _ => absurd rfl h
  | _, [], _, h, _, _, _ => absurd rfl h
  | [a], [b], _, _, _, _, h => by
    have : a = b := h
    rw [this]
  | [a], b :: b2 :: r, _, _, h1, _, h => by
    have e : a = b ++ c :: joinL c (b2 :: r) := h
    exact absurd (e ▸ by simp) (h1 a List.mem_cons_self)
  | a :: a2 :: r, [b], _, _, _, h2, h => by
    have e : a ++ c :: joinL c (a2 :: r) = b := h
    exact absurd (e ▸ by simp) (h2 b List.mem_cons_self)
  | a :: a2 :: r, b :: b2 :: r', _, _, h1, h2, h => by
    have e : a ++ c :: joinL c (a2 :: r) = b ++ c :: joinL c (b2 :: r') := h
    obtain ⟨e1, e2⟩ := cut_inj (h1 a List.mem_cons_self) (h2 b List.mem_cons_self) e
    have := joinL_inj (List.cons_ne_nil _ _) (List.cons_ne_nil _ _) (fun p hp => h1 p (.tail _ hp)) (fun p hp => h2 p (.tail _ hp)) e2
    rw [e1, this]
theorem split_ne (x : Str) (c : Nat) : Txt.split x ⟨#[c]⟩ ≠ [] := by
  unfold Txt.split
  split
  · exact List.cons_ne_nil _ _
  · split
    · exact List.cons_ne_nil _ _
    · rw [partsBetween_eq]
      obtain ⟨p, r, e⟩ := partsFrom_ne x (⟨#[c]⟩ : Str).length 0 (occurrences x ⟨#[c]⟩ 0 x.length (x.length + 1))
      rw [e]
      exact List.cons_ne_nil _ _
theorem split_at {c : Nat} {P : List (List Nat)} (hne : P ≠ []) (hf : ∀ p ∈ P, c ∉ p) : Txt.split (ofL (joinL c P)) ⟨#[c]⟩ = P.map ofL := by
  have h1 := join_split (ofL (joinL c P)) ⟨#[c]⟩
  have h2 := split_free (ofL (joinL c P)) c
  have h3 := split_ne (ofL (joinL c P)) c
  generalize Txt.split (ofL (joinL c P)) ⟨#[c]⟩ = S at h1 h2 h3
  have h4 : joinL c (S.map fun p => p.cps.toList) = joinL c P := by
    rw [← join_list, h1]
  have h5 := joinL_inj (by simpa using h3) hne (by
    intro p hp
    obtain ⟨q, hq, rfl⟩ := List.mem_map.mp hp
    exact h2 q hq) hf h4
  rw [← h5, List.map_map]
  conv => lhs; rw [← List.map_id S]
  refine List.map_congr_left fun p _ => ?_
  exact eq_ofL rfl
theorem part_of {c : Nat} : ∀ {P : List (List Nat)} {p : List Nat}, p ∈ P → (∀ x ∈ p, x ∈ joinL c P) ∧ p.length ≤ (joinL c P).length
  | [a], p, h => by
    rw [List.mem_singleton.mp h]
    exact ⟨fun _ hx => hx, Nat.le_refl _⟩
  | a :: b :: r, p, h => by
    rcases List.mem_cons.mp h with rfl | h
    · exact ⟨fun x hx => List.mem_append_left _ hx, by show _ ≤ (p ++ c :: joinL c (b :: r)).length; simp⟩
    · obtain ⟨h1, h2⟩ := part_of (c := c) h
      refine ⟨fun x hx => List.mem_append_right _ (.tail _ (h1 x hx)), ?_⟩
      show _ ≤ (a ++ c :: joinL c (b :: r)).length
      rw [List.length_append, List.length_cons]
      omega
theorem split_part {x y : Str} {c : Nat} (h : y ∈ Txt.split x ⟨#[c]⟩) : (∀ v ∈ y.cps.toList, v ∈ x.cps.toList) ∧ y.length ≤ x.length := by
  have h1 := join_split x ⟨#[c]⟩
  have h2 : joinL c ((Txt.split x ⟨#[c]⟩).map fun p => p.cps.toList) = x.cps.toList := by rw [← join_list, h1]
  have h3 := part_of (c := c) (List.mem_map_of_mem (f := fun p : Str => p.cps.toList) h)
  rw [h2] at h3
  refine ⟨h3.1, ?_⟩
  have := h3.2
  simpa [PySem.Str.length] using this
theorem slice_part {x : Str} {l u : Option Int} : (∀ v ∈ (Txt.slice x l u).cps.toList, v ∈ x.cps.toList) := by
  unfold Txt.slice
  split
  · exact fun v hv => hv
  · intro v hv
    simp only [List.mem_filterMap] at hv
    obtain ⟨i, _, hi⟩ := hv
    rw [← Array.getElem?_toList] at hi
    exact List.mem_of_getElem? hi
theorem take_all {p : Nat → Bool} : ∀ {l : List Nat}, (∀ v ∈ l, p v = true) → l.takeWhile p = l
  | [], _ => rfl
  | a :: r, h => by
    rw [List.takeWhile_cons, if_pos (h a List.mem_cons_self), take_all fun v hv => h v (.tail _ hv)]
theorem ascii_seen {y : Str} (h : ∀ v ∈ y.cps.toList, 0 < v ∧ v < 128) : ((numSeenOf y).length == (numTextOf y).length) = true := by
  have ha : y.cps.all (· < 128) = true := by
    rw [← Array.all_toList, List.all_eq_true]
    intro v hv
    exact decide_eq_true (h v hv).2
  have e : numTextOf y = y.cps.toList := by
    show (if y.cps.all (· < 128) then y.cps.toList else Unicode.numberText y.cps.toList) = _
    rw [if_pos ha]
  have e2 : numSeenOf y = y.cps.toList := by
    show (numTextOf y).takeWhile (· != 0) = _
    rw [e]
    refine take_all fun v hv => ?_
    have := (h v hv).1
    simp
    omega
  rw [e, e2]
  exact beq_self_eq_true _
theorem parts_ok {l : List Nat} (h : ∀ v ∈ l, 0 < v ∧ v < 128) (hl : l.length ≤ 95) : ∀ y ∈ partsOf (ofL l), ((numSeenOf y).length == (numTextOf y).length) = true ∧ (reprText y).length ≤ 1000 := by
  intro y hy
  unfold partsOf at hy
  have hi : ∃ c, Txt.item (ofL l) (Txt.find (ofL l) (Str.ofString "(") + 1) = ⟨#[c]⟩ := ⟨_, rfl⟩
  obtain ⟨c, hc⟩ := hi
  rw [hc] at hy
  have h1 := split_part hy
  have hv : ∀ v ∈ y.cps.toList, 0 < v ∧ v < 128 := fun v hv => h v (by
    have := slice_part v (h1.1 v hv)
    rwa [ofL_list] at this)
  have hyl : y.length ≤ 95 := Nat.le_trans h1.2 (Nat.le_trans (Txt.slice_le _ _ _) (by rw [ofL_len]; exact hl))
  refine ⟨ascii_seen hv, ?_⟩
  have := reprText_len y (fun v hv' => by have := (hv v hv').2; have : (16 : Nat) ^ 8 = 4294967296 := by decide
                                          omega)
  omega
def MarkOk (mk : Str) : Prop := ∃ c, mk = ⟨#[c]⟩ ∧ (c = 124 ∨ c = 33 ∨ c = 47 ∨ c = 46)
theorem mark_len {mk : Str} (h : MarkOk mk) : mk.length ≤ 1 := by
  obtain ⟨c, rfl, _⟩ := h; exact Nat.le_refl 1
theorem mark_len2 {mk : Str} (h : MarkOk mk) : (Txt.mul mk 2).length ≤ 2 := by
  obtain ⟨c, rfl, _⟩ := h; exact Nat.le_refl 2
/-- the digits of a port -/
structure Dig (x : Int) (D : List Nat) : Prop where
  is : Str.ofString (toString x) = ofL D
  dig : ∀ v ∈ D, 48 ≤ v ∧ v ≤ 57
  ne : D ≠ []
  len : D.length ≤ 10
theorem dig_of {x : Int} (h0 : 0 ≤ x) (h1 : x < 2097152) : ∃ D, Dig x D := by
  have h10 : x < 10 ^ 10 := by
    have : (10 : Int) ^ 10 = 10000000000 := by decide
    omega
  have hl := KT.len_num h0 h10
  obtain ⟨m, rfl⟩ := Int.eq_ofNat_of_zero_le h0
  refine ⟨(Str.ofString (toString ((m : Nat) : Int))).cps.toList, eq_ofL rfl, ?_, ?_, ?_⟩
  · intro c hc
    rw [KIN.signs_num] at hc
    obtain ⟨ch, hch, e⟩ := List.mem_map.mp hc
    have r := digit_range (Nat.isDigit_of_mem_toDigits (by decide) (by decide) hch)
    rw [← e]
    exact r
  · rw [KIN.signs_num]
    intro e
    have h := Nat.length_toDigits_pos (b := 10) (n := m)
    rw [List.map_eq_nil_iff.mp e] at h
    exact absurd h (by decide)
  · simpa [PySem.Str.length] using hl
theorem k_text {k : Int} (k1 : 1 ≤ k) (k7 : k ≤ 7) : ∃ K : Nat, Str.ofString (toString k) = ofL [K] ∧ 49 ≤ K ∧ K ≤ 55 := by
  have h : k = 1 ∨ k = 2 ∨ k = 3 ∨ k = 4 ∨ k = 5 ∨ k = 6 ∨ k = 7 := by omega
  rcases h with rfl | rfl | rfl | rfl | rfl | rfl | rfl
  · exact ⟨49, by decide +kernel, by decide⟩
  · exact ⟨50, by decide +kernel, by decide⟩
  · exact ⟨51, by decide +kernel, by decide⟩
  · exact ⟨52, by decide +kernel, by decide⟩
  · exact ⟨53, by decide +kernel, by decide⟩
  · exact ⟨54, by decide +kernel, by decide⟩
  · exact ⟨55, by decide +kernel, by decide⟩
abbrev bodyL (c K : Nat) (D : List Nat) : List Nat := c :: K :: c :: c :: (D ++ [c])
abbrev wholeL (c K : Nat) (D : List Nat) : List Nat := 50 :: 50 :: 57 :: 32 :: 40 :: (bodyL c K D ++ [41])
theorem whole_list {mk : Str} {k x : Int} {c K : Nat} {D : List Nat} (hm : mk = ⟨#[c]⟩) (hk : Str.ofString (toString k) = ofL [K]) (hd : Str.ofString (toString x) = ofL D) : wholeT mk k x = ofL (wholeL c K D) := by
  refine eq_ofL ?_
  unfold wholeT
  rw [hk, hd, hm]
  have e1 : Str.ofString "229 (" = ofL [50, 50, 57, 32, 40] := by decide +kernel
  have e2 : Str.ofString ")" = ofL [41] := by decide +kernel
  have e3 : Txt.mul ⟨#[c]⟩ 2 = ofL [c, c] := rfl
  rw [e1, e2, e3]
  simp [PySem.Str.cps_append]
section
variable {c K : Nat} {D : List Nat}
/-- the frame of a reply with both brackets -/
theorem fr_find {a0 a1 a2 : Nat} {M : List Nat} (h0 : a0 ≠ 40) (h1 : a1 ≠ 40) (h2 : a2 ≠ 40) : Txt.find (ofL (a0 :: a1 :: a2 :: 32 :: 40 :: M)) (Str.ofString "(") = 4 := by
  have e : Str.ofString "(" = ⟨#[40]⟩ := by decide +kernel
  rw [e]
  have h : (40 : Nat) ∉ [a0, a1, a2, 32] := by simp; omega
  exact find_at (mid := [a0, a1, a2, 32]) (post := M) h
theorem fr_find3 {a0 a1 a2 : Nat} {M post : List Nat} (h : 41 ∉ M) : Txt.find3 (ofL (a0 :: a1 :: a2 :: 32 :: 40 :: (M ++ 41 :: post))) (Str.ofString ")") 5 = ((5 + M.length : Nat) : Int) := by
  have e : Str.ofString ")" = ⟨#[41]⟩ := by decide +kernel
  rw [e]
  exact find3_at (pre := [a0, a1, a2, 32, 40]) (mid := M) (post := post) h
theorem fr_find3_no {a0 a1 a2 : Nat} {M : List Nat} (h : 41 ∉ M) : Txt.find3 (ofL (a0 :: a1 :: a2 :: 32 :: 40 :: M)) (Str.ofString ")") 5 = -1 := by
  have e : Str.ofString ")" = ⟨#[41]⟩ := by decide +kernel
  rw [e]
  exact find3_no (pre := [a0, a1, a2, 32, 40]) (post := M) h
theorem fr_head {a0 a1 a2 : Nat} {M : List Nat} : Txt.slice (ofL (a0 :: a1 :: a2 :: M)) none (some 3) = ofL [a0, a1, a2] := by
  exact slice_to (l := a0 :: a1 :: a2 :: M) (j := 3) (by simp)
theorem fr_first {a0 a1 a2 m : Nat} {M : List Nat} : Txt.item (ofL (a0 :: a1 :: a2 :: 32 :: 40 :: m :: M)) 5 = ofL [m] := by
  exact item_at (l := a0 :: a1 :: a2 :: 32 :: 40 :: m :: M) (i := 5) (by simp)
theorem fr_last {a0 a1 a2 z : Nat} {M post : List Nat} : Txt.item (ofL (a0 :: a1 :: a2 :: 32 :: 40 :: (M ++ z :: post))) ((5 + M.length : Nat) : Int) = ofL [z] := by
  rw [item_at (by simp; omega)]
  congr 2
  rw [List.getD_eq_getElem?_getD]
  have : (a0 :: a1 :: a2 :: 32 :: 40 :: (M ++ z :: post)) = [a0, a1, a2, 32, 40] ++ (M ++ z :: post) := rfl
  rw [this, List.getElem?_append_right (by simp)]
  simp
theorem fr_cut {a0 a1 a2 : Nat} {M post : List Nat} : Txt.slice (ofL (a0 :: a1 :: a2 :: 32 :: 40 :: (M ++ 41 :: post))) (some 5) (some ((5 + M.length : Nat) : Int)) = ofL M := by
  have h := slice_at (l := a0 :: a1 :: a2 :: 32 :: 40 :: (M ++ 41 :: post)) (i := 5) (j := 5 + M.length) (by omega) (by simp; omega)
  have e : List.take (5 + M.length - 5) (List.drop 5 (a0 :: a1 :: a2 :: 32 :: 40 :: (M ++ 41 :: post))) = M := by
    have e5 : 5 + M.length - 5 = M.length := by omega
    rw [e5]
    show List.take M.length (M ++ 41 :: post) = M
    simp
  rw [e] at h
  exact h
theorem ne_text {a b : List Nat} (h : a ≠ b) : (ofL a != ofL b) = true := by
  rw [bne_iff_ne]
  intro e
  exact h (by have := congrArg (fun x : Str => x.cps.toList) e; simpa using this)
theorem eq_text {a : List Nat} : (ofL a != ofL a) = false := by simp
theorem t229 : Str.ofString "229" = ofL [50, 50, 57] := by decide +kernel
theorem out_227 {M : List Nat} : outOf (ofL (50 :: 50 :: 55 :: M)) = .reply := by
  refine out_reply ?_
  rw [fr_head, t229]
  exact ne_text (by decide)
/-- a reply with both brackets, a body m .. z -/
theorem out_ends {m z : Nat} {M post : List Nat} (hM : 41 ∉ m :: M) (hz : 41 ≠ z) (hmz : m ≠ z) : outOf (ofL (50 :: 50 :: 57 :: 32 :: 40 :: (m :: (M ++ [z]) ++ 41 :: post))) = .proto := by
  have f1 := fr_find (a0 := 50) (a1 := 50) (a2 := 57) (M := m :: (M ++ [z]) ++ 41 :: post) (by decide) (by decide) (by decide)
  have hn : 41 ∉ m :: (M ++ [z]) := by
    simp only [List.mem_cons, List.mem_append, not_or] at hM ⊢
    exact ⟨hM.1, hM.2, hz, by simp⟩
  have f2 := fr_find3 (a0 := 50) (a1 := 50) (a2 := 57) (post := post) hn
  have e1 : (4 : Int) + 1 = 5 := rfl
  refine out_marks ?_ ?_ ?_ ?_
  · have := fr_head (a0 := 50) (a1 := 50) (a2 := 57) (M := 32 :: 40 :: (m :: (M ++ [z]) ++ 41 :: post))
    rw [this, t229]; exact eq_text
  · rw [f1]; decide
  · rw [f1, e1, f2]; omega
  · rw [f1, e1, f2]
    have g1 : Txt.item (ofL (50 :: 50 :: 57 :: 32 :: 40 :: (m :: (M ++ [z]) ++ 41 :: post))) 5 = ofL [m] := fr_first
    have g2 : Txt.item (ofL (50 :: 50 :: 57 :: 32 :: 40 :: (m :: (M ++ [z]) ++ 41 :: post))) (((5 + (m :: (M ++ [z])).length : Nat) : Int) - 1) = ofL [z] := by
      have := fr_last (a0 := 50) (a1 := 50) (a2 := 57) (z := z) (M := m :: M) (post := 41 :: post)
      have e2 : (((5 + (m :: (M ++ [z])).length : Nat) : Int) - 1) = ((5 + (m :: M).length : Nat) : Int) := by
        simp only [List.length_cons, List.length_append, List.length_nil]; omega
      have e3 : m :: (M ++ [z]) ++ 41 :: post = m :: M ++ z :: 41 :: post := by simp
      rw [e2, e3]
      exact this
    rw [g1, g2]
    exact ne_text (by simpa using hmz)
theorem parts_is {m : Nat} {M post : List Nat} {P : List (List Nat)} (hM : 41 ∉ m :: M) (hP : m :: M = joinL m P) (hne : P ≠ []) (hf : ∀ p ∈ P, m ∉ p) : partsOf (ofL (50 :: 50 :: 57 :: 32 :: 40 :: (m :: M ++ 41 :: post))) = P.map ofL := by
  have f1 := fr_find (a0 := 50) (a1 := 50) (a2 := 57) (M := m :: M ++ 41 :: post) (by decide) (by decide) (by decide)
  have f2 := fr_find3 (a0 := 50) (a1 := 50) (a2 := 57) (post := post) hM
  have e1 : (4 : Int) + 1 = 5 := rfl
  have f3 := fr_cut (a0 := 50) (a1 := 50) (a2 := 57) (M := m :: M) (post := post)
  have f4 : Txt.item (ofL (50 :: 50 :: 57 :: 32 :: 40 :: (m :: M ++ 41 :: post))) 5 = ofL [m] := fr_first
  unfold partsOf
  rw [f1, e1, f2, f3, f4, hP]
  exact split_at hne hf
theorem out_body {m : Nat} {M post : List Nat} {P : List (List Nat)} (hM : 41 ∉ m :: (M ++ [m])) (hP : m :: (M ++ [m]) = joinL m P) (hne : P ≠ []) (hf : ∀ p ∈ P, m ∉ p) :
    outOf (ofL (50 :: 50 :: 57 :: 32 :: 40 :: (m :: (M ++ [m]) ++ 41 :: post))) = if P.length ≠ 5 then .proto else match _root_.PySem.intText? ((P.map ofL).getD 3 Str.empty) with | some n => .port n | none => .value := by
  have f1 := fr_find (a0 := 50) (a1 := 50) (a2 := 57) (M := m :: (M ++ [m]) ++ 41 :: post) (by decide) (by decide) (by decide)
  have f2 := fr_find3 (a0 := 50) (a1 := 50) (a2 := 57) (post := post) hM
  have e1 : (4 : Int) + 1 = 5 := rfl
  have hp := parts_is (post := post) hM hP hne hf
  have h3 : (Txt.slice (ofL (50 :: 50 :: 57 :: 32 :: 40 :: (m :: (M ++ [m]) ++ 41 :: post))) none (some 3) != Str.ofString "229") = false := by
    have := fr_head (a0 := 50) (a1 := 50) (a2 := 57) (M := 32 :: 40 :: (m :: (M ++ [m]) ++ 41 :: post))
    rw [this, t229]; exact eq_text
  have h6 : (Txt.item (ofL (50 :: 50 :: 57 :: 32 :: 40 :: (m :: (M ++ [m]) ++ 41 :: post))) (Txt.find (ofL (50 :: 50 :: 57 :: 32 :: 40 :: (m :: (M ++ [m]) ++ 41 :: post))) (Str.ofString "(") + 1) != Txt.item (ofL (50 :: 50 :: 57 :: 32 :: 40 :: (m :: (M ++ [m]) ++ 41 :: post))) (Txt.find3 (ofL (50 :: 50 :: 57 :: 32 :: 40 :: (m :: (M ++ [m]) ++ 41 :: post))) (Str.ofString ")") (Txt.find (ofL (50 :: 50 :: 57 :: 32 :: 40 :: (m :: (M ++ [m]) ++ 41 :: post))) (Str.ofString "(") + 1) - 1)) = false := by
    rw [f1, e1, f2]
    have g1 : Txt.item (ofL (50 :: 50 :: 57 :: 32 :: 40 :: (m :: (M ++ [m]) ++ 41 :: post))) 5 = ofL [m] := fr_first
    have g2 : Txt.item (ofL (50 :: 50 :: 57 :: 32 :: 40 :: (m :: (M ++ [m]) ++ 41 :: post))) (((5 + (m :: (M ++ [m])).length : Nat) : Int) - 1) = ofL [m] := by
      have := fr_last (a0 := 50) (a1 := 50) (a2 := 57) (z := m) (M := m :: M) (post := 41 :: post)
      have e2 : (((5 + (m :: (M ++ [m])).length : Nat) : Int) - 1) = ((5 + (m :: M).length : Nat) : Int) := by
        simp only [List.length_cons, List.length_append, List.length_nil]; omega
      have e3 : m :: (M ++ [m]) ++ 41 :: post = m :: M ++ m :: 41 :: post := by simp
      rw [e2, e3]
      exact this
    rw [g1, g2]
    exact eq_text
  unfold outOf
  rw [h3, if_neg Bool.false_ne_true, if_neg (by rw [f1]; decide), if_neg (by rw [f1, e1, f2]; omega), h6, if_neg Bool.false_ne_true, hp, List.length_map]
  all_goals (by_cases h5 : P.length ≠ 5)
  all_goals first | rw [if_pos h5, if_pos h5] | (rw [if_neg h5, if_neg h5]; (try (cases _root_.PySem.intText? ((P.map ofL).getD 3 Str.empty) <;> rfl)))
abbrev TextA (r : Str) : Prop := Txt.find r (Str.ofString "(") < 0 ∨ (Txt.find r (Str.ofString "(") = 4 ∧ (Txt.find3 r (Str.ofString ")") (Txt.find r (Str.ofString "(") + 1) < 0 ∨ (6 ≤ Txt.find3 r (Str.ofString ")") (Txt.find r (Str.ofString "(") + 1) ∧ Txt.find3 r (Str.ofString ")") (Txt.find r (Str.ofString "(") + 1) < r.length)))
theorem A_both {a0 a1 a2 : Nat} {M post : List Nat} (h0 : a0 ≠ 40) (h1 : a1 ≠ 40) (h2 : a2 ≠ 40) (hM : 41 ∉ M) (hn : 0 < M.length) : TextA (ofL (a0 :: a1 :: a2 :: 32 :: 40 :: (M ++ 41 :: post))) := by
  have f1 := fr_find (M := M ++ 41 :: post) h0 h1 h2
  have f2 := fr_find3 (a0 := a0) (a1 := a1) (a2 := a2) (post := post) hM
  have e1 : (4 : Int) + 1 = 5 := rfl
  refine .inr ⟨f1, .inr ?_⟩
  rw [f1, e1, f2, ofL_len]
  simp only [List.length_cons, List.length_append]
  omega
theorem A_open {a0 a1 a2 : Nat} {M : List Nat} (h0 : a0 ≠ 40) (h1 : a1 ≠ 40) (h2 : a2 ≠ 40) (hM : 41 ∉ M) : TextA (ofL (a0 :: a1 :: a2 :: 32 :: 40 :: M)) := by
  have f1 := fr_find (M := M) h0 h1 h2
  have f2 := fr_find3_no (a0 := a0) (a1 := a1) (a2 := a2) hM
  have e1 : (4 : Int) + 1 = 5 := rfl
  refine .inr ⟨f1, .inl ?_⟩
  rw [f1, e1, f2]
  decide
theorem f_none {l : List Nat} (h : 40 ∉ l) : Txt.find (ofL l) (Str.ofString "(") = -1 := by
  have e : Str.ofString "(" = ⟨#[40]⟩ := by decide +kernel
  rw [e]
  exact find_no h
theorem int_x {D : List Nat} (hd : ∀ v ∈ D, 48 ≤ v ∧ v ≤ 57) (hne : D ≠ []) : _root_.PySem.intText? (ofL (D ++ [120])) = none := by
  have hv : ∀ v ∈ (ofL (D ++ [120])).cps.toList, 0 < v ∧ v < 128 := by
    intro v h
    rw [ofL_list] at h
    rcases List.mem_append.mp h with h | h
    · have := hd v h; omega
    · rw [List.mem_singleton.mp h]; decide
  have ha : (ofL (D ++ [120])).cps.all (· < 128) = true := by
    rw [← Array.all_toList, List.all_eq_true]
    intro v h
    exact decide_eq_true (hv v h).2
  have e : numTextOf (ofL (D ++ [120])) = D ++ [120] := by
    show (if (ofL (D ++ [120])).cps.all (· < 128) then (ofL (D ++ [120])).cps.toList else Unicode.numberText (ofL (D ++ [120])).cps.toList) = _
    rw [if_pos ha, ofL_list]
  have e2 : numSeenOf (ofL (D ++ [120])) = D ++ [120] := by
    show (numTextOf (ofL (D ++ [120]))).takeWhile (· != 0) = _
    rw [e]
    refine take_all fun v h => ?_
    have := (hv v (by rw [ofL_list]; exact h)).1
    simp
    omega
  have hc : NumText.core (D ++ [120]) = D ++ [120] := by
    cases D with
    | nil => exact absurd rfl hne
    | cons d r =>
      have hd' := hd d List.mem_cons_self
      have hb : NumText.blank d = false := by
        unfold NumText.blank
        simp
        omega
      have hx : NumText.blank 120 = false := by decide
      unfold NumText.core
      rw [List.cons_append, List.dropWhile_cons, hb]
      simp only [Bool.false_eq_true, if_false]
      have hs : NumText.sign (d :: (r ++ [120])) = (false, d :: (r ++ [120])) := by
        unfold NumText.sign
        split
        · rename_i h; have := (List.cons.inj h).1; omega
        · rename_i h; have := (List.cons.inj h).1; omega
        · rfl
      rw [hs]
      simp only [List.reverse_cons, List.reverse_append, List.reverse_nil, List.nil_append, List.cons_append, List.dropWhile_cons, hx, Bool.false_eq_true, if_false]
      simp
  have hg : NumText.digits? 10 (D ++ [120]) = none := by
    unfold NumText.digits?
    rw [List.foldlM_append]
    cases List.foldlM (NumText.step 10) ((#[] : Array Nat), false) D with
    | none => rfl
    | some p => rfl
  unfold _root_.PySem.intText?
  rw [e2, hc, hg]
  exact ite_self (none : Option Int)
/-- a sign of the law's texts -/
def SepOk (c : Nat) : Prop := c = 124 ∨ c = 33 ∨ c = 47 ∨ c = 46
abbrev lostL (kd : Int) (c K : Nat) (D : List Nat) : List Nat :=
  if kd = 0 then 50 :: 50 :: 55 :: 32 :: 40 :: (bodyL c K D ++ [41])
  else if kd = 1 then 50 :: 50 :: 57 :: 32 :: 40 :: bodyL c K D
  else if kd = 2 then 50 :: 50 :: 57 :: 32 :: 40 :: (c :: bodyL c K D ++ [41])
  else if kd = 3 then 50 :: 50 :: 57 :: 32 :: 40 :: (c :: K :: c :: c :: (D ++ [120, c]) ++ [41])
  else if kd = 4 then 50 :: 50 :: 57 :: 32 :: (bodyL c K D ++ [41])
  else if kd = 5 then 50 :: 50 :: 57 :: 32 :: 40 :: (bodyL c K D ++ [120, 41])
  else 50 :: 50 :: 55 :: 32 :: 40 :: bodyL c K D
theorem cat_ofL (a b : List Nat) : ofL a ++ ofL b = ofL (a ++ b) := eq_ofL (by simp [PySem.Str.cps_append])
theorem t227 : Str.ofString "227" = ofL [50, 50, 55] := by decide +kernel
theorem tx : Str.ofString "x" = ofL [120] := by decide +kernel
theorem txb : Str.ofString "x)" = ofL [120, 41] := by decide +kernel
theorem whole_cut1 : Txt.slice (ofL (wholeL c K D)) none (some (-1)) = ofL (50 :: 50 :: 57 :: 32 :: 40 :: bodyL c K D) := by
  have h := slice_to_neg (l := wholeL c K D) (j := 1) (by decide) (by simp)
  have e : List.take ((wholeL c K D).length - 1) (wholeL c K D) = 50 :: 50 :: 57 :: 32 :: 40 :: bodyL c K D := by
    have e1 : wholeL c K D = (50 :: 50 :: 57 :: 32 :: 40 :: bodyL c K D) ++ [41] := rfl
    have e2 : (wholeL c K D).length - 1 = (50 :: 50 :: 57 :: 32 :: 40 :: bodyL c K D).length := by
      rw [e1, List.length_append]; simp
    rw [e2, e1, List.take_left]
  rw [e] at h
  exact h
theorem whole_cut2 : Txt.slice (ofL (wholeL c K D)) none (some (-2)) = ofL (50 :: 50 :: 57 :: 32 :: 40 :: c :: K :: c :: c :: D) := by
  have h := slice_to_neg (l := wholeL c K D) (j := 2) (by decide) (by simp)
  have e : List.take ((wholeL c K D).length - 2) (wholeL c K D) = 50 :: 50 :: 57 :: 32 :: 40 :: c :: K :: c :: c :: D := by
    have e1 : wholeL c K D = (50 :: 50 :: 57 :: 32 :: 40 :: c :: K :: c :: c :: D) ++ [c, 41] := by simp
    have e2 : (wholeL c K D).length - 2 = (50 :: 50 :: 57 :: 32 :: 40 :: c :: K :: c :: c :: D).length := by
      rw [e1, List.length_append]; simp
    rw [e2, e1, List.take_left]
  rw [e] at h
  exact h
theorem whole_end2 : Txt.slice (ofL (wholeL c K D)) (some (-2)) none = ofL [c, 41] := by
  have h := slice_from_neg (l := wholeL c K D) (j := 2) (by decide) (by simp)
  have e : List.drop ((wholeL c K D).length - 2) (wholeL c K D) = [c, 41] := by
    have e1 : wholeL c K D = (50 :: 50 :: 57 :: 32 :: 40 :: c :: K :: c :: c :: D) ++ [c, 41] := by simp
    have e2 : (wholeL c K D).length - 2 = (50 :: 50 :: 57 :: 32 :: 40 :: c :: K :: c :: c :: D).length := by
      rw [e1, List.length_append]; simp
    rw [e2, e1, List.drop_left]
  rw [e] at h
  exact h
theorem whole_cut31 : Txt.slice (ofL (wholeL c K D)) (some 3) (some (-1)) = ofL (32 :: 40 :: bodyL c K D) := by
  have h := slice_both_neg (l := wholeL c K D) (i := 3) (j := 1) (by decide) (by simp)
  have e : List.take ((wholeL c K D).length - 1 - 3) (List.drop 3 (wholeL c K D)) = 32 :: 40 :: bodyL c K D := by
    have e1 : List.drop 3 (wholeL c K D) = (32 :: 40 :: bodyL c K D) ++ [41] := rfl
    have e2 : (wholeL c K D).length - 1 - 3 = (32 :: 40 :: bodyL c K D).length := by
      simp
    rw [e2, e1, List.take_left]
  rw [e] at h
  exact h
theorem notin_body {v : Nat} (hvc : v ≠ c) (hv : v < 48) (hK : 49 ≤ K ∧ K ≤ 55) (hd : ∀ v ∈ D, 48 ≤ v ∧ v ≤ 57) : v ∉ bodyL c K D := by
  intro h
  rcases List.mem_cons.mp h with h | h
  · exact hvc h
  rcases List.mem_cons.mp h with h | h
  · omega
  rcases List.mem_cons.mp h with h | h
  · exact hvc h
  rcases List.mem_cons.mp h with h | h
  · exact hvc h
  rcases List.mem_append.mp h with h | h
  · have := hd v h; omega
  · exact hvc (List.mem_singleton.mp h)
theorem lost_list (hs : SepOk c) (hK : 49 ≤ K ∧ K ≤ 55) (hd : ∀ v ∈ D, 48 ≤ v ∧ v ≤ 57) (kd : Int) : lostF (ofL (wholeL c K D)) ⟨#[c]⟩ kd = ofL (lostL kd c K D) := by
  have hc40 : c ≠ 40 := by unfold SepOk at hs; omega
  unfold lostF lostL
  split
  · rw [t227, show Txt.slice (ofL (wholeL c K D)) (some 3) none = _ from slice_from (l := wholeL c K D) (i := 3) (by simp), cat_ofL]; rfl
  split
  · exact whole_cut1
  split
  · rw [show Txt.slice (ofL (wholeL c K D)) none (some 5) = _ from slice_to (l := wholeL c K D) (j := 5) (by simp), show Txt.slice (ofL (wholeL c K D)) (some 5) none = _ from slice_from (l := wholeL c K D) (i := 5) (by simp)]
    show ofL _ ++ ofL [c] ++ ofL _ = _
    rw [cat_ofL, cat_ofL]; rfl
  split
  · rw [whole_cut2, whole_end2, tx, cat_ofL, cat_ofL]; simp
  split
  · have e : Str.ofString "(" = ⟨#[40]⟩ := by decide +kernel
    have e0 : Str.ofString "" = ofL [] := by decide +kernel
    have eW : wholeL c K D = joinL 40 [[50, 50, 57, 32], bodyL c K D ++ [41]] := rfl
    rw [e, e0, replace_one, eW, split_at (List.cons_ne_nil _ _)]
    · show ofL _ ++ ofL [] ++ ofL _ = _
      rw [cat_ofL, cat_ofL]; simp
    · intro p hp
      simp only [List.mem_cons, List.not_mem_nil, or_false] at hp
      rcases hp with rfl | rfl
      · decide
      · intro h
        rcases List.mem_append.mp h with h | h
        · exact notin_body hc40.symm (by decide) hK hd h
        · exact absurd (List.mem_singleton.mp h) (by decide)
  split
  · rw [whole_cut1, txb, cat_ofL]; rfl
  · rw [t227, whole_cut31, cat_ofL]; rfl
theorem ascii_body (hs : SepOk c) (hK : 49 ≤ K ∧ K ≤ 55) (hd : ∀ v ∈ D, 48 ≤ v ∧ v ≤ 57) : ∀ v ∈ bodyL c K D, 0 < v ∧ v < 128 := by
  have hc : 0 < c ∧ c < 128 := by unfold SepOk at hs; omega
  intro v h
  rcases List.mem_cons.mp h with rfl | h
  · exact hc
  rcases List.mem_cons.mp h with rfl | h
  · omega
  rcases List.mem_cons.mp h with rfl | h
  · exact hc
  rcases List.mem_cons.mp h with rfl | h
  · exact hc
  rcases List.mem_append.mp h with h | h
  · have := hd v h; omega
  · rw [List.mem_singleton.mp h]; exact hc
theorem ascii_lost (hs : SepOk c) (hK : 49 ≤ K ∧ K ≤ 55) (hd : ∀ v ∈ D, 48 ≤ v ∧ v ≤ 57) (kd : Int) : ∀ v ∈ lostL kd c K D, 0 < v ∧ v < 128 := by
  have hb := ascii_body hs hK hd
  have hc : 0 < c ∧ c < 128 := hb c List.mem_cons_self
  have hK' : 0 < K ∧ K < 128 := by omega
  have hD : ∀ v ∈ D, 0 < v ∧ v < 128 := fun v h => by have := hd v h; omega
  unfold lostL
  repeat' split
  all_goals
    intro v h
    simp only [List.mem_cons, List.mem_append, List.not_mem_nil, or_false] at h
    rcases h with h | h
    · omega
  all_goals
    repeat' (first | exact hD v h | omega | rcases h with h | h)
theorem len_lost (hl : D.length ≤ 10) (kd : Int) : (lostL kd c K D).length ≤ 30 := by
  unfold lostL
  repeat' split
  all_goals
    simp only [List.length_cons, List.length_append, List.length_nil]
    omega
theorem lostA (hs : SepOk c) (hK : 49 ≤ K ∧ K ≤ 55) (hd : ∀ v ∈ D, 48 ≤ v ∧ v ≤ 57) (kd : Int) : TextA (ofL (lostL kd c K D)) := by
  have hc41 : 41 ≠ c := by unfold SepOk at hs; omega
  have hc40 : 40 ≠ c := by unfold SepOk at hs; omega
  have hb : 41 ∉ bodyL c K D := notin_body hc41 (by decide) hK hd
  have hb0 : 40 ∉ bodyL c K D := notin_body hc40 (by decide) hK hd
  unfold lostL
  split
  · exact A_both (M := bodyL c K D) (post := []) (by decide) (by decide) (by decide) hb (by simp)
  split
  · exact A_open (M := bodyL c K D) (by decide) (by decide) (by decide) hb
  split
  · exact A_both (M := c :: bodyL c K D) (post := []) (by decide) (by decide) (by decide) (by
      intro h
      rcases List.mem_cons.mp h with h | h
      · exact hc41 h
      · exact hb h) (by simp)
  split
  · exact A_both (M := c :: K :: c :: c :: (D ++ [120, c])) (post := []) (by decide) (by decide) (by decide) (by
      intro h
      rcases List.mem_cons.mp h with h | h
      · exact hc41 h
      rcases List.mem_cons.mp h with h | h
      · omega
      rcases List.mem_cons.mp h with h | h
      · exact hc41 h
      rcases List.mem_cons.mp h with h | h
      · exact hc41 h
      rcases List.mem_append.mp h with h | h
      · have := hd 41 h; omega
      rcases List.mem_cons.mp h with h | h
      · omega
      · exact hc41 (List.mem_singleton.mp h)) (by simp)
  split
  · refine .inl ?_
    rw [f_none]
    · decide
    · intro h
      rcases List.mem_cons.mp h with h | h
      · omega
      rcases List.mem_cons.mp h with h | h
      · omega
      rcases List.mem_cons.mp h with h | h
      · omega
      rcases List.mem_cons.mp h with h | h
      · omega
      rcases List.mem_append.mp h with h | h
      · exact hb0 h
      · exact absurd (List.mem_singleton.mp h) (by decide)
  split
  · have e : bodyL c K D ++ [120, 41] = (bodyL c K D ++ [120]) ++ 41 :: [] := by simp
    rw [e]
    exact A_both (M := bodyL c K D ++ [120]) (post := []) (by decide) (by decide) (by decide) (by
      intro h
      rcases List.mem_append.mp h with h | h
      · exact hb h
      · exact absurd (List.mem_singleton.mp h) (by decide)) (by simp)
  · exact A_open (M := bodyL c K D) (by decide) (by decide) (by decide) hb
end
end Mine
end

section
open PySem PySem.W PyProof.Rows
namespace Mine
abbrev bX (a b : Int) : Int := Builtin.bitXor a b
def CodeOk (p0 p1 p2 p3 p4 p5 p6 p7 : Int) : Prop := p0 = 0 ∧ p1 = lawSum [0, 0, 0, p3, 0, p5, p6, p7] 0 1 ∧ p2 = lawSum [0, p1, 0, p3, 0, p5, p6, p7] 1 2 ∧ p4 = lawSum [0, p1, p2, p3, 0, p5, p6, p7] 2 4
section
variable {p0 p1 p2 p3 p4 p5 p6 p7 q0 q1 q2 q3 q4 q5 q6 q7 : Int}
theorem ls_0_0 : lawSum [q0, q1, q2, q3, q4, q5, q6, q7] 0 0 = (bX (bX (bX (bX 0 q1) q3) q5) q7) := rfl
theorem ls_0_1 : lawSum [q0, q1, q2, q3, q4, q5, q6, q7] 0 1 = (bX (bX (bX 0 q3) q5) q7) := rfl
theorem ls_0_3 : lawSum [q0, q1, q2, q3, q4, q5, q6, q7] 0 3 = (bX (bX (bX 0 q1) q5) q7) := rfl
theorem ls_0_5 : lawSum [q0, q1, q2, q3, q4, q5, q6, q7] 0 5 = (bX (bX (bX 0 q1) q3) q7) := rfl
theorem ls_0_7 : lawSum [q0, q1, q2, q3, q4, q5, q6, q7] 0 7 = (bX (bX (bX 0 q1) q3) q5) := rfl
theorem ls_1_0 : lawSum [q0, q1, q2, q3, q4, q5, q6, q7] 1 0 = (bX (bX (bX (bX 0 q2) q3) q6) q7) := rfl
theorem ls_1_2 : lawSum [q0, q1, q2, q3, q4, q5, q6, q7] 1 2 = (bX (bX (bX 0 q3) q6) q7) := rfl
theorem ls_1_3 : lawSum [q0, q1, q2, q3, q4, q5, q6, q7] 1 3 = (bX (bX (bX 0 q2) q6) q7) := rfl
theorem ls_1_6 : lawSum [q0, q1, q2, q3, q4, q5, q6, q7] 1 6 = (bX (bX (bX 0 q2) q3) q7) := rfl
theorem ls_1_7 : lawSum [q0, q1, q2, q3, q4, q5, q6, q7] 1 7 = (bX (bX (bX 0 q2) q3) q6) := rfl
theorem ls_2_0 : lawSum [q0, q1, q2, q3, q4, q5, q6, q7] 2 0 = (bX (bX (bX (bX 0 q4) q5) q6) q7) := rfl
theorem ls_2_4 : lawSum [q0, q1, q2, q3, q4, q5, q6, q7] 2 4 = (bX (bX (bX 0 q5) q6) q7) := rfl
theorem ls_2_5 : lawSum [q0, q1, q2, q3, q4, q5, q6, q7] 2 5 = (bX (bX (bX 0 q4) q6) q7) := rfl
theorem ls_2_6 : lawSum [q0, q1, q2, q3, q4, q5, q6, q7] 2 6 = (bX (bX (bX 0 q4) q5) q7) := rfl
theorem ls_2_7 : lawSum [q0, q1, q2, q3, q4, q5, q6, q7] 2 7 = (bX (bX (bX 0 q4) q5) q6) := rfl
theorem bxn (a b : Nat) : bX (a : Int) (b : Int) = ((a ^^^ b : Nat) : Int) := bxor_nat a b
theorem bxz (b : Nat) : bX 0 (b : Int) = (b : Int) := by
  have h := bxor_nat 0 b
  rw [Nat.zero_xor] at h
  exact h
theorem xor_cancel (a b c : Nat) : a ^^^ b ^^^ c ^^^ b ^^^ c = a := by
  apply Nat.eq_of_testBit_eq
  intro i
  simp only [Nat.testBit_xor]
  cases a.testBit i <;> cases b.testBit i <;> cases c.testBit i <;> rfl
/-- what the law's code says of the ports -/
structure CodeW (p0 p1 p2 p3 p4 p5 p6 p7 : Int) : Prop where
  z : p0 = 0
  i01 : (bX (bX (bX 0 p3) p5) p7) = p1
  i03 : (bX (bX (bX 0 p1) p5) p7) = p3
  i05 : (bX (bX (bX 0 p1) p3) p7) = p5
  i07 : (bX (bX (bX 0 p1) p3) p5) = p7
  i12 : (bX (bX (bX 0 p3) p6) p7) = p2
  i13 : (bX (bX (bX 0 p2) p6) p7) = p3
  i16 : (bX (bX (bX 0 p2) p3) p7) = p6
  i17 : (bX (bX (bX 0 p2) p3) p6) = p7
  i24 : (bX (bX (bX 0 p5) p6) p7) = p4
  i25 : (bX (bX (bX 0 p4) p6) p7) = p5
  i26 : (bX (bX (bX 0 p4) p5) p7) = p6
  i27 : (bX (bX (bX 0 p4) p5) p6) = p7
theorem code_of (h3 : 0 ≤ p3) (h5 : 0 ≤ p5) (h6 : 0 ≤ p6) (h7 : 0 ≤ p7) (hc : CodeOk p0 p1 p2 p3 p4 p5 p6 p7) : CodeW p0 p1 p2 p3 p4 p5 p6 p7 ∧ ∃ n1 n2 n4 : Nat, p1 = n1 ∧ p2 = n2 ∧ p4 = n4 ∧ n1 = p3.toNat ^^^ p5.toNat ^^^ p7.toNat ∧ n2 = p3.toNat ^^^ p6.toNat ^^^ p7.toNat ∧ n4 = p5.toNat ^^^ p6.toNat ^^^ p7.toNat := by
  obtain ⟨rfl, e1, e2, e4⟩ := hc
  rw [ls_0_1] at e1
  rw [ls_1_2] at e2
  rw [ls_2_4] at e4
  obtain ⟨a3, rfl⟩ := to_nat h3
  obtain ⟨a5, rfl⟩ := to_nat h5
  obtain ⟨a6, rfl⟩ := to_nat h6
  obtain ⟨a7, rfl⟩ := to_nat h7
  rw [bxz, bxn, bxn] at e1 e2 e4
  subst e1 e2 e4
  refine ⟨⟨rfl, ?_, ?_, ?_, ?_, ?_, ?_, ?_, ?_, ?_, ?_, ?_, ?_⟩, _, _, _, rfl, rfl, rfl, ?_, ?_, ?_⟩
  rotate_right 3
  all_goals (try (simp only [Int.toNat_natCast]; done))
  all_goals (simp only [bxz, bxn] <;> congr 1 <;> (apply Nat.eq_of_testBit_eq; intro i; simp only [Nat.testBit_xor]; cases a3.testBit i <;> cases a5.testBit i <;> cases a6.testBit i <;> cases a7.testBit i <;> rfl))
theorem code_here (hp : ∀ x ∈ [p0, p1, p2, p3, p4, p5, p6, p7], 0 ≤ x ∧ x < 1048576) (hc : CodeOk p0 p1 p2 p3 p4 p5 p6 p7) : CodeW p0 p1 p2 p3 p4 p5 p6 p7 := (code_of (hp _ (by simp)).1 (hp _ (by simp)).1 (hp _ (by simp)).1 (hp _ (by simp)).1 hc).1
theorem code_bnd (h3 : 0 ≤ p3 ∧ p3 < 1000000) (h5 : 0 ≤ p5 ∧ p5 < 1000000) (h6 : 0 ≤ p6 ∧ p6 < 1000000) (h7 : 0 ≤ p7 ∧ p7 < 1000000) (hc : CodeOk p0 p1 p2 p3 p4 p5 p6 p7) : ∀ x ∈ [p0, p1, p2, p3, p4, p5, p6, p7], 0 ≤ x ∧ x < 1048576 := by
  obtain ⟨hC, n1, n2, n4, r1, r2, r4, m1, m2, m4⟩ := code_of h3.1 h5.1 h6.1 h7.1 hc
  have e20 : (2 : Nat) ^ 20 = 1048576 := by decide
  have l3 : p3.toNat < 2 ^ 20 := by omega
  have l5 : p5.toNat < 2 ^ 20 := by omega
  have l6 : p6.toNat < 2 ^ 20 := by omega
  have l7 : p7.toNat < 2 ^ 20 := by omega
  have k1 : n1 < 2 ^ 20 := m1 ▸ Nat.xor_lt_two_pow (Nat.xor_lt_two_pow l3 l5) l7
  have k2 : n2 < 2 ^ 20 := m2 ▸ Nat.xor_lt_two_pow (Nat.xor_lt_two_pow l3 l6) l7
  have k4 : n4 < 2 ^ 20 := m4 ▸ Nat.xor_lt_two_pow (Nat.xor_lt_two_pow l5 l6) l7
  have z := hC.z
  clear m1 m2 m4 hC
  rw [e20] at k1 k2 k4
  intro x hx
  simp only [List.mem_cons, List.not_mem_nil, or_false] at hx
  rcases hx with rfl | rfl | rfl | rfl | rfl | rfl | rfl | rfl <;> omega
theorem xor_bnd {k n5 : Int} (hp : ∀ x ∈ [p0, p1, p2, p3, p4, p5, p6, p7], 0 ≤ x ∧ x < 1048576) (k1 : 1 ≤ k) (k7 : k ≤ 7) (h5 : 0 ≤ n5 ∧ n5 < 1000000) : ∀ x ∈ [[p0, p1, p2, p3, p4, p5, p6, p7].getD k.toNat 0, Builtin.bitXor ([p0, p1, p2, p3, p4, p5, p6, p7].getD k.toNat 0) (n5 + 1)], 0 ≤ x ∧ x < 2097152 := by
  have h := getD_bnd (P := fun x => 0 ≤ x ∧ x < 1048576) hp k1 k7
  generalize [p0, p1, p2, p3, p4, p5, p6, p7].getD k.toNat 0 = v at h
  obtain ⟨a, rfl⟩ := to_nat h.1
  obtain ⟨b, rfl⟩ := to_nat h5.1
  have e21 : (2 : Nat) ^ 21 = 2097152 := by decide
  have eb : ((b : Int) + 1) = ((b + 1 : Nat) : Int) := by push_cast; rfl
  have hx : a ^^^ (b + 1) < 2 ^ 21 := Nat.xor_lt_two_pow (by omega) (by omega)
  rw [eb, bxor_nat]
  intro x hx'
  simp only [List.mem_cons, List.not_mem_nil, or_false] at hx'
  rcases hx' with rfl | rfl <;> omega
theorem off_0_1 (h : CodeW p0 p1 p2 p3 p4 p5 p6 p7) (hp : ∀ x ∈ [p0, p1, p2, p3, p4, p5, p6, p7], 0 ≤ x ∧ x < 1048576) {v : Int} (hv : 0 ≤ v) : (bX (bX (bX (bX 0 (bX p1 v)) p3) p5) p7) = v := by
  have e := h.i01
  obtain ⟨a1, rfl⟩ := to_nat (hp p1 (by simp)).1
  obtain ⟨a3, rfl⟩ := to_nat (hp p3 (by simp)).1
  obtain ⟨a5, rfl⟩ := to_nat (hp p5 (by simp)).1
  obtain ⟨a7, rfl⟩ := to_nat (hp p7 (by simp)).1
  obtain ⟨c, rfl⟩ := to_nat hv
  clear h hp
  simp only [bxz, bxn] at e ⊢
  have e := Int.ofNat.inj e
  subst e
  congr 1; apply Nat.eq_of_testBit_eq; intro i; simp only [Nat.testBit_xor, Nat.zero_testBit]; cases a3.testBit i <;> cases a5.testBit i <;> cases a7.testBit i <;> cases c.testBit i <;> rfl
theorem off_0_2 (h : CodeW p0 p1 p2 p3 p4 p5 p6 p7) (hp : ∀ x ∈ [p0, p1, p2, p3, p4, p5, p6, p7], 0 ≤ x ∧ x < 1048576) : (bX (bX (bX (bX 0 p1) p3) p5) p7) = 0 := by
  have e := h.i01
  obtain ⟨a1, rfl⟩ := to_nat (hp p1 (by simp)).1
  obtain ⟨a3, rfl⟩ := to_nat (hp p3 (by simp)).1
  obtain ⟨a5, rfl⟩ := to_nat (hp p5 (by simp)).1
  obtain ⟨a7, rfl⟩ := to_nat (hp p7 (by simp)).1
  clear h hp
  simp only [bxz, bxn] at e ⊢
  have e := Int.ofNat.inj e
  subst e
  rw [show (0 : Int) = ((0 : Nat) : Int) from rfl]; congr 1; apply Nat.eq_of_testBit_eq; intro i; simp only [Nat.testBit_xor, Nat.zero_testBit]; cases a3.testBit i <;> cases a5.testBit i <;> cases a7.testBit i <;> rfl
theorem off_0_3 (h : CodeW p0 p1 p2 p3 p4 p5 p6 p7) (hp : ∀ x ∈ [p0, p1, p2, p3, p4, p5, p6, p7], 0 ≤ x ∧ x < 1048576) {v : Int} (hv : 0 ≤ v) : (bX (bX (bX (bX 0 p1) (bX p3 v)) p5) p7) = v := by
  have e := h.i03
  obtain ⟨a1, rfl⟩ := to_nat (hp p1 (by simp)).1
  obtain ⟨a3, rfl⟩ := to_nat (hp p3 (by simp)).1
  obtain ⟨a5, rfl⟩ := to_nat (hp p5 (by simp)).1
  obtain ⟨a7, rfl⟩ := to_nat (hp p7 (by simp)).1
  obtain ⟨c, rfl⟩ := to_nat hv
  clear h hp
  simp only [bxz, bxn] at e ⊢
  have e := Int.ofNat.inj e
  subst e
  congr 1; apply Nat.eq_of_testBit_eq; intro i; simp only [Nat.testBit_xor, Nat.zero_testBit]; cases a1.testBit i <;> cases a5.testBit i <;> cases a7.testBit i <;> cases c.testBit i <;> rfl
theorem off_0_4 (h : CodeW p0 p1 p2 p3 p4 p5 p6 p7) (hp : ∀ x ∈ [p0, p1, p2, p3, p4, p5, p6, p7], 0 ≤ x ∧ x < 1048576) : (bX (bX (bX (bX 0 p1) p3) p5) p7) = 0 := by
  have e := h.i01
  obtain ⟨a1, rfl⟩ := to_nat (hp p1 (by simp)).1
  obtain ⟨a3, rfl⟩ := to_nat (hp p3 (by simp)).1
  obtain ⟨a5, rfl⟩ := to_nat (hp p5 (by simp)).1
  obtain ⟨a7, rfl⟩ := to_nat (hp p7 (by simp)).1
  clear h hp
  simp only [bxz, bxn] at e ⊢
  have e := Int.ofNat.inj e
  subst e
  rw [show (0 : Int) = ((0 : Nat) : Int) from rfl]; congr 1; apply Nat.eq_of_testBit_eq; intro i; simp only [Nat.testBit_xor, Nat.zero_testBit]; cases a3.testBit i <;> cases a5.testBit i <;> cases a7.testBit i <;> rfl
theorem off_0_5 (h : CodeW p0 p1 p2 p3 p4 p5 p6 p7) (hp : ∀ x ∈ [p0, p1, p2, p3, p4, p5, p6, p7], 0 ≤ x ∧ x < 1048576) {v : Int} (hv : 0 ≤ v) : (bX (bX (bX (bX 0 p1) p3) (bX p5 v)) p7) = v := by
  have e := h.i05
  obtain ⟨a1, rfl⟩ := to_nat (hp p1 (by simp)).1
  obtain ⟨a3, rfl⟩ := to_nat (hp p3 (by simp)).1
  obtain ⟨a5, rfl⟩ := to_nat (hp p5 (by simp)).1
  obtain ⟨a7, rfl⟩ := to_nat (hp p7 (by simp)).1
  obtain ⟨c, rfl⟩ := to_nat hv
  clear h hp
  simp only [bxz, bxn] at e ⊢
  have e := Int.ofNat.inj e
  subst e
  congr 1; apply Nat.eq_of_testBit_eq; intro i; simp only [Nat.testBit_xor, Nat.zero_testBit]; cases a1.testBit i <;> cases a3.testBit i <;> cases a7.testBit i <;> cases c.testBit i <;> rfl
theorem off_0_6 (h : CodeW p0 p1 p2 p3 p4 p5 p6 p7) (hp : ∀ x ∈ [p0, p1, p2, p3, p4, p5, p6, p7], 0 ≤ x ∧ x < 1048576) : (bX (bX (bX (bX 0 p1) p3) p5) p7) = 0 := by
  have e := h.i01
  obtain ⟨a1, rfl⟩ := to_nat (hp p1 (by simp)).1
  obtain ⟨a3, rfl⟩ := to_nat (hp p3 (by simp)).1
  obtain ⟨a5, rfl⟩ := to_nat (hp p5 (by simp)).1
  obtain ⟨a7, rfl⟩ := to_nat (hp p7 (by simp)).1
  clear h hp
  simp only [bxz, bxn] at e ⊢
  have e := Int.ofNat.inj e
  subst e
  rw [show (0 : Int) = ((0 : Nat) : Int) from rfl]; congr 1; apply Nat.eq_of_testBit_eq; intro i; simp only [Nat.testBit_xor, Nat.zero_testBit]; cases a3.testBit i <;> cases a5.testBit i <;> cases a7.testBit i <;> rfl
theorem off_0_7 (h : CodeW p0 p1 p2 p3 p4 p5 p6 p7) (hp : ∀ x ∈ [p0, p1, p2, p3, p4, p5, p6, p7], 0 ≤ x ∧ x < 1048576) {v : Int} (hv : 0 ≤ v) : (bX (bX (bX (bX 0 p1) p3) p5) (bX p7 v)) = v := by
  have e := h.i07
  obtain ⟨a1, rfl⟩ := to_nat (hp p1 (by simp)).1
  obtain ⟨a3, rfl⟩ := to_nat (hp p3 (by simp)).1
  obtain ⟨a5, rfl⟩ := to_nat (hp p5 (by simp)).1
  obtain ⟨a7, rfl⟩ := to_nat (hp p7 (by simp)).1
  obtain ⟨c, rfl⟩ := to_nat hv
  clear h hp
  simp only [bxz, bxn] at e ⊢
  have e := Int.ofNat.inj e
  subst e
  congr 1; apply Nat.eq_of_testBit_eq; intro i; simp only [Nat.testBit_xor, Nat.zero_testBit]; cases a1.testBit i <;> cases a3.testBit i <;> cases a5.testBit i <;> cases c.testBit i <;> rfl
theorem off_1_1 (h : CodeW p0 p1 p2 p3 p4 p5 p6 p7) (hp : ∀ x ∈ [p0, p1, p2, p3, p4, p5, p6, p7], 0 ≤ x ∧ x < 1048576) : (bX (bX (bX (bX 0 p2) p3) p6) p7) = 0 := by
  have e := h.i12
  obtain ⟨a2, rfl⟩ := to_nat (hp p2 (by simp)).1
  obtain ⟨a3, rfl⟩ := to_nat (hp p3 (by simp)).1
  obtain ⟨a6, rfl⟩ := to_nat (hp p6 (by simp)).1
  obtain ⟨a7, rfl⟩ := to_nat (hp p7 (by simp)).1
  clear h hp
  simp only [bxz, bxn] at e ⊢
  have e := Int.ofNat.inj e
  subst e
  rw [show (0 : Int) = ((0 : Nat) : Int) from rfl]; congr 1; apply Nat.eq_of_testBit_eq; intro i; simp only [Nat.testBit_xor, Nat.zero_testBit]; cases a3.testBit i <;> cases a6.testBit i <;> cases a7.testBit i <;> rfl
theorem off_1_2 (h : CodeW p0 p1 p2 p3 p4 p5 p6 p7) (hp : ∀ x ∈ [p0, p1, p2, p3, p4, p5, p6, p7], 0 ≤ x ∧ x < 1048576) {v : Int} (hv : 0 ≤ v) : (bX (bX (bX (bX 0 (bX p2 v)) p3) p6) p7) = v := by
  have e := h.i12
  obtain ⟨a2, rfl⟩ := to_nat (hp p2 (by simp)).1
  obtain ⟨a3, rfl⟩ := to_nat (hp p3 (by simp)).1
  obtain ⟨a6, rfl⟩ := to_nat (hp p6 (by simp)).1
  obtain ⟨a7, rfl⟩ := to_nat (hp p7 (by simp)).1
  obtain ⟨c, rfl⟩ := to_nat hv
  clear h hp
  simp only [bxz, bxn] at e ⊢
  have e := Int.ofNat.inj e
  subst e
  congr 1; apply Nat.eq_of_testBit_eq; intro i; simp only [Nat.testBit_xor, Nat.zero_testBit]; cases a3.testBit i <;> cases a6.testBit i <;> cases a7.testBit i <;> cases c.testBit i <;> rfl
theorem off_1_3 (h : CodeW p0 p1 p2 p3 p4 p5 p6 p7) (hp : ∀ x ∈ [p0, p1, p2, p3, p4, p5, p6, p7], 0 ≤ x ∧ x < 1048576) {v : Int} (hv : 0 ≤ v) : (bX (bX (bX (bX 0 p2) (bX p3 v)) p6) p7) = v := by
  have e := h.i13
  obtain ⟨a2, rfl⟩ := to_nat (hp p2 (by simp)).1
  obtain ⟨a3, rfl⟩ := to_nat (hp p3 (by simp)).1
  obtain ⟨a6, rfl⟩ := to_nat (hp p6 (by simp)).1
  obtain ⟨a7, rfl⟩ := to_nat (hp p7 (by simp)).1
  obtain ⟨c, rfl⟩ := to_nat hv
  clear h hp
  simp only [bxz, bxn] at e ⊢
  have e := Int.ofNat.inj e
  subst e
  congr 1; apply Nat.eq_of_testBit_eq; intro i; simp only [Nat.testBit_xor, Nat.zero_testBit]; cases a2.testBit i <;> cases a6.testBit i <;> cases a7.testBit i <;> cases c.testBit i <;> rfl
theorem off_1_4 (h : CodeW p0 p1 p2 p3 p4 p5 p6 p7) (hp : ∀ x ∈ [p0, p1, p2, p3, p4, p5, p6, p7], 0 ≤ x ∧ x < 1048576) : (bX (bX (bX (bX 0 p2) p3) p6) p7) = 0 := by
  have e := h.i12
  obtain ⟨a2, rfl⟩ := to_nat (hp p2 (by simp)).1
  obtain ⟨a3, rfl⟩ := to_nat (hp p3 (by simp)).1
  obtain ⟨a6, rfl⟩ := to_nat (hp p6 (by simp)).1
  obtain ⟨a7, rfl⟩ := to_nat (hp p7 (by simp)).1
  clear h hp
  simp only [bxz, bxn] at e ⊢
  have e := Int.ofNat.inj e
  subst e
  rw [show (0 : Int) = ((0 : Nat) : Int) from rfl]; congr 1; apply Nat.eq_of_testBit_eq; intro i; simp only [Nat.testBit_xor, Nat.zero_testBit]; cases a3.testBit i <;> cases a6.testBit i <;> cases a7.testBit i <;> rfl
theorem off_1_5 (h : CodeW p0 p1 p2 p3 p4 p5 p6 p7) (hp : ∀ x ∈ [p0, p1, p2, p3, p4, p5, p6, p7], 0 ≤ x ∧ x < 1048576) : (bX (bX (bX (bX 0 p2) p3) p6) p7) = 0 := by
  have e := h.i12
  obtain ⟨a2, rfl⟩ := to_nat (hp p2 (by simp)).1
  obtain ⟨a3, rfl⟩ := to_nat (hp p3 (by simp)).1
  obtain ⟨a6, rfl⟩ := to_nat (hp p6 (by simp)).1
  obtain ⟨a7, rfl⟩ := to_nat (hp p7 (by simp)).1
  clear h hp
  simp only [bxz, bxn] at e ⊢
  have e := Int.ofNat.inj e
  subst e
  rw [show (0 : Int) = ((0 : Nat) : Int) from rfl]; congr 1; apply Nat.eq_of_testBit_eq; intro i; simp only [Nat.testBit_xor, Nat.zero_testBit]; cases a3.testBit i <;> cases a6.testBit i <;> cases a7.testBit i <;> rfl
theorem off_1_6 (h : CodeW p0 p1 p2 p3 p4 p5 p6 p7) (hp : ∀ x ∈ [p0, p1, p2, p3, p4, p5, p6, p7], 0 ≤ x ∧ x < 1048576) {v : Int} (hv : 0 ≤ v) : (bX (bX (bX (bX 0 p2) p3) (bX p6 v)) p7) = v := by
  have e := h.i16
  obtain ⟨a2, rfl⟩ := to_nat (hp p2 (by simp)).1
  obtain ⟨a3, rfl⟩ := to_nat (hp p3 (by simp)).1
  obtain ⟨a6, rfl⟩ := to_nat (hp p6 (by simp)).1
  obtain ⟨a7, rfl⟩ := to_nat (hp p7 (by simp)).1
  obtain ⟨c, rfl⟩ := to_nat hv
  clear h hp
  simp only [bxz, bxn] at e ⊢
  have e := Int.ofNat.inj e
  subst e
  congr 1; apply Nat.eq_of_testBit_eq; intro i; simp only [Nat.testBit_xor, Nat.zero_testBit]; cases a2.testBit i <;> cases a3.testBit i <;> cases a7.testBit i <;> cases c.testBit i <;> rfl
theorem off_1_7 (h : CodeW p0 p1 p2 p3 p4 p5 p6 p7) (hp : ∀ x ∈ [p0, p1, p2, p3, p4, p5, p6, p7], 0 ≤ x ∧ x < 1048576) {v : Int} (hv : 0 ≤ v) : (bX (bX (bX (bX 0 p2) p3) p6) (bX p7 v)) = v := by
  have e := h.i17
  obtain ⟨a2, rfl⟩ := to_nat (hp p2 (by simp)).1
  obtain ⟨a3, rfl⟩ := to_nat (hp p3 (by simp)).1
  obtain ⟨a6, rfl⟩ := to_nat (hp p6 (by simp)).1
  obtain ⟨a7, rfl⟩ := to_nat (hp p7 (by simp)).1
  obtain ⟨c, rfl⟩ := to_nat hv
  clear h hp
  simp only [bxz, bxn] at e ⊢
  have e := Int.ofNat.inj e
  subst e
  congr 1; apply Nat.eq_of_testBit_eq; intro i; simp only [Nat.testBit_xor, Nat.zero_testBit]; cases a2.testBit i <;> cases a3.testBit i <;> cases a6.testBit i <;> cases c.testBit i <;> rfl
theorem off_2_1 (h : CodeW p0 p1 p2 p3 p4 p5 p6 p7) (hp : ∀ x ∈ [p0, p1, p2, p3, p4, p5, p6, p7], 0 ≤ x ∧ x < 1048576) : (bX (bX (bX (bX 0 p4) p5) p6) p7) = 0 := by
  have e := h.i24
  obtain ⟨a4, rfl⟩ := to_nat (hp p4 (by simp)).1
  obtain ⟨a5, rfl⟩ := to_nat (hp p5 (by simp)).1
  obtain ⟨a6, rfl⟩ := to_nat (hp p6 (by simp)).1
  obtain ⟨a7, rfl⟩ := to_nat (hp p7 (by simp)).1
  clear h hp
  simp only [bxz, bxn] at e ⊢
  have e := Int.ofNat.inj e
  subst e
  rw [show (0 : Int) = ((0 : Nat) : Int) from rfl]; congr 1; apply Nat.eq_of_testBit_eq; intro i; simp only [Nat.testBit_xor, Nat.zero_testBit]; cases a5.testBit i <;> cases a6.testBit i <;> cases a7.testBit i <;> rfl
theorem off_2_2 (h : CodeW p0 p1 p2 p3 p4 p5 p6 p7) (hp : ∀ x ∈ [p0, p1, p2, p3, p4, p5, p6, p7], 0 ≤ x ∧ x < 1048576) : (bX (bX (bX (bX 0 p4) p5) p6) p7) = 0 := by
  have e := h.i24
  obtain ⟨a4, rfl⟩ := to_nat (hp p4 (by simp)).1
  obtain ⟨a5, rfl⟩ := to_nat (hp p5 (by simp)).1
  obtain ⟨a6, rfl⟩ := to_nat (hp p6 (by simp)).1
  obtain ⟨a7, rfl⟩ := to_nat (hp p7 (by simp)).1
  clear h hp
  simp only [bxz, bxn] at e ⊢
  have e := Int.ofNat.inj e
  subst e
  rw [show (0 : Int) = ((0 : Nat) : Int) from rfl]; congr 1; apply Nat.eq_of_testBit_eq; intro i; simp only [Nat.testBit_xor, Nat.zero_testBit]; cases a5.testBit i <;> cases a6.testBit i <;> cases a7.testBit i <;> rfl
theorem off_2_3 (h : CodeW p0 p1 p2 p3 p4 p5 p6 p7) (hp : ∀ x ∈ [p0, p1, p2, p3, p4, p5, p6, p7], 0 ≤ x ∧ x < 1048576) : (bX (bX (bX (bX 0 p4) p5) p6) p7) = 0 := by
  have e := h.i24
  obtain ⟨a4, rfl⟩ := to_nat (hp p4 (by simp)).1
  obtain ⟨a5, rfl⟩ := to_nat (hp p5 (by simp)).1
  obtain ⟨a6, rfl⟩ := to_nat (hp p6 (by simp)).1
  obtain ⟨a7, rfl⟩ := to_nat (hp p7 (by simp)).1
  clear h hp
  simp only [bxz, bxn] at e ⊢
  have e := Int.ofNat.inj e
  subst e
  rw [show (0 : Int) = ((0 : Nat) : Int) from rfl]; congr 1; apply Nat.eq_of_testBit_eq; intro i; simp only [Nat.testBit_xor, Nat.zero_testBit]; cases a5.testBit i <;> cases a6.testBit i <;> cases a7.testBit i <;> rfl
theorem off_2_4 (h : CodeW p0 p1 p2 p3 p4 p5 p6 p7) (hp : ∀ x ∈ [p0, p1, p2, p3, p4, p5, p6, p7], 0 ≤ x ∧ x < 1048576) {v : Int} (hv : 0 ≤ v) : (bX (bX (bX (bX 0 (bX p4 v)) p5) p6) p7) = v := by
  have e := h.i24
  obtain ⟨a4, rfl⟩ := to_nat (hp p4 (by simp)).1
  obtain ⟨a5, rfl⟩ := to_nat (hp p5 (by simp)).1
  obtain ⟨a6, rfl⟩ := to_nat (hp p6 (by simp)).1
  obtain ⟨a7, rfl⟩ := to_nat (hp p7 (by simp)).1
  obtain ⟨c, rfl⟩ := to_nat hv
  clear h hp
  simp only [bxz, bxn] at e ⊢
  have e := Int.ofNat.inj e
  subst e
  congr 1; apply Nat.eq_of_testBit_eq; intro i; simp only [Nat.testBit_xor, Nat.zero_testBit]; cases a5.testBit i <;> cases a6.testBit i <;> cases a7.testBit i <;> cases c.testBit i <;> rfl
theorem off_2_5 (h : CodeW p0 p1 p2 p3 p4 p5 p6 p7) (hp : ∀ x ∈ [p0, p1, p2, p3, p4, p5, p6, p7], 0 ≤ x ∧ x < 1048576) {v : Int} (hv : 0 ≤ v) : (bX (bX (bX (bX 0 p4) (bX p5 v)) p6) p7) = v := by
  have e := h.i25
  obtain ⟨a4, rfl⟩ := to_nat (hp p4 (by simp)).1
  obtain ⟨a5, rfl⟩ := to_nat (hp p5 (by simp)).1
  obtain ⟨a6, rfl⟩ := to_nat (hp p6 (by simp)).1
  obtain ⟨a7, rfl⟩ := to_nat (hp p7 (by simp)).1
  obtain ⟨c, rfl⟩ := to_nat hv
  clear h hp
  simp only [bxz, bxn] at e ⊢
  have e := Int.ofNat.inj e
  subst e
  congr 1; apply Nat.eq_of_testBit_eq; intro i; simp only [Nat.testBit_xor, Nat.zero_testBit]; cases a4.testBit i <;> cases a6.testBit i <;> cases a7.testBit i <;> cases c.testBit i <;> rfl
theorem off_2_6 (h : CodeW p0 p1 p2 p3 p4 p5 p6 p7) (hp : ∀ x ∈ [p0, p1, p2, p3, p4, p5, p6, p7], 0 ≤ x ∧ x < 1048576) {v : Int} (hv : 0 ≤ v) : (bX (bX (bX (bX 0 p4) p5) (bX p6 v)) p7) = v := by
  have e := h.i26
  obtain ⟨a4, rfl⟩ := to_nat (hp p4 (by simp)).1
  obtain ⟨a5, rfl⟩ := to_nat (hp p5 (by simp)).1
  obtain ⟨a6, rfl⟩ := to_nat (hp p6 (by simp)).1
  obtain ⟨a7, rfl⟩ := to_nat (hp p7 (by simp)).1
  obtain ⟨c, rfl⟩ := to_nat hv
  clear h hp
  simp only [bxz, bxn] at e ⊢
  have e := Int.ofNat.inj e
  subst e
  congr 1; apply Nat.eq_of_testBit_eq; intro i; simp only [Nat.testBit_xor, Nat.zero_testBit]; cases a4.testBit i <;> cases a5.testBit i <;> cases a7.testBit i <;> cases c.testBit i <;> rfl
theorem off_2_7 (h : CodeW p0 p1 p2 p3 p4 p5 p6 p7) (hp : ∀ x ∈ [p0, p1, p2, p3, p4, p5, p6, p7], 0 ≤ x ∧ x < 1048576) {v : Int} (hv : 0 ≤ v) : (bX (bX (bX (bX 0 p4) p5) p6) (bX p7 v)) = v := by
  have e := h.i27
  obtain ⟨a4, rfl⟩ := to_nat (hp p4 (by simp)).1
  obtain ⟨a5, rfl⟩ := to_nat (hp p5 (by simp)).1
  obtain ⟨a6, rfl⟩ := to_nat (hp p6 (by simp)).1
  obtain ⟨a7, rfl⟩ := to_nat (hp p7 (by simp)).1
  obtain ⟨c, rfl⟩ := to_nat hv
  clear h hp
  simp only [bxz, bxn] at e ⊢
  have e := Int.ofNat.inj e
  subst e
  congr 1; apply Nat.eq_of_testBit_eq; intro i; simp only [Nat.testBit_xor, Nat.zero_testBit]; cases a4.testBit i <;> cases a5.testBit i <;> cases a6.testBit i <;> cases c.testBit i <;> rfl
theorem off_pure {k n5 : Int} (hp : ∀ x ∈ [p0, p1, p2, p3, p4, p5, p6, p7], 0 ≤ x ∧ x < 1048576) (hc : CodeOk p0 p1 p2 p3 p4 p5 p6 p7) (k1 : 1 ≤ k) (k7 : k ≤ 7) {n0 n1 n2 n3 n4 : Int} (h5 : 0 ≤ n5 ∧ n5 < 1000000) :
    [lawSum (List.take k.toNat [p0, p1, p2, p3, p4, p5, p6, p7] ++ [Builtin.bitXor ([p0, p1, p2, p3, p4, p5, p6, p7].getD k.toNat 0) (n5 + 1)] ++ List.drop (k + 1).toNat [p0, p1, p2, p3, p4, p5, p6, p7]) 0 0, lawSum (List.take k.toNat [p0, p1, p2, p3, p4, p5, p6, p7] ++ [Builtin.bitXor ([p0, p1, p2, p3, p4, p5, p6, p7].getD k.toNat 0) (n5 + 1)] ++ List.drop (k + 1).toNat [p0, p1, p2, p3, p4, p5, p6, p7]) 1 0, lawSum (List.take k.toNat [p0, p1, p2, p3, p4, p5, p6, p7] ++ [Builtin.bitXor ([p0, p1, p2, p3, p4, p5, p6, p7].getD k.toNat 0) (n5 + 1)] ++ List.drop (k + 1).toNat [p0, p1, p2, p3, p4, p5, p6, p7]) 2 0] =
    List.map (fun k' => ([n0, n1, n2, n3, n4, n5].getD (Int.toNat 5) 0 + 1) * (k.fdiv (2 ^ k'.toNat)).fmod 2) (rangeKs 0 ((3 : Int) - 0).toNat) := by
  have h := code_here hp hc
  have hv : 0 ≤ n5 + 1 := by omega
  rcases k_cases3 k1 k7 with rfl | rfl | rfl | rfl | rfl | rfl | rfl
  · show [lawSum [p0, bX p1 (n5 + 1), p2, p3, p4, p5, p6, p7] 0 0, lawSum [p0, bX p1 (n5 + 1), p2, p3, p4, p5, p6, p7] 1 0, lawSum [p0, bX p1 (n5 + 1), p2, p3, p4, p5, p6, p7] 2 0] = [(n5 + 1) * 1, (n5 + 1) * 0, (n5 + 1) * 0]
    rw [ls_0_0, ls_1_0, ls_2_0, off_0_1 h hp hv, off_1_1 h hp, off_2_1 h hp]
    simp
  · show [lawSum [p0, p1, bX p2 (n5 + 1), p3, p4, p5, p6, p7] 0 0, lawSum [p0, p1, bX p2 (n5 + 1), p3, p4, p5, p6, p7] 1 0, lawSum [p0, p1, bX p2 (n5 + 1), p3, p4, p5, p6, p7] 2 0] = [(n5 + 1) * 0, (n5 + 1) * 1, (n5 + 1) * 0]
    rw [ls_0_0, ls_1_0, ls_2_0, off_0_2 h hp, off_1_2 h hp hv, off_2_2 h hp]
    simp
  · show [lawSum [p0, p1, p2, bX p3 (n5 + 1), p4, p5, p6, p7] 0 0, lawSum [p0, p1, p2, bX p3 (n5 + 1), p4, p5, p6, p7] 1 0, lawSum [p0, p1, p2, bX p3 (n5 + 1), p4, p5, p6, p7] 2 0] = [(n5 + 1) * 1, (n5 + 1) * 1, (n5 + 1) * 0]
    rw [ls_0_0, ls_1_0, ls_2_0, off_0_3 h hp hv, off_1_3 h hp hv, off_2_3 h hp]
    simp
  · show [lawSum [p0, p1, p2, p3, bX p4 (n5 + 1), p5, p6, p7] 0 0, lawSum [p0, p1, p2, p3, bX p4 (n5 + 1), p5, p6, p7] 1 0, lawSum [p0, p1, p2, p3, bX p4 (n5 + 1), p5, p6, p7] 2 0] = [(n5 + 1) * 0, (n5 + 1) * 0, (n5 + 1) * 1]
    rw [ls_0_0, ls_1_0, ls_2_0, off_0_4 h hp, off_1_4 h hp, off_2_4 h hp hv]
    simp
  · show [lawSum [p0, p1, p2, p3, p4, bX p5 (n5 + 1), p6, p7] 0 0, lawSum [p0, p1, p2, p3, p4, bX p5 (n5 + 1), p6, p7] 1 0, lawSum [p0, p1, p2, p3, p4, bX p5 (n5 + 1), p6, p7] 2 0] = [(n5 + 1) * 1, (n5 + 1) * 0, (n5 + 1) * 1]
    rw [ls_0_0, ls_1_0, ls_2_0, off_0_5 h hp hv, off_1_5 h hp, off_2_5 h hp hv]
    simp
  · show [lawSum [p0, p1, p2, p3, p4, p5, bX p6 (n5 + 1), p7] 0 0, lawSum [p0, p1, p2, p3, p4, p5, bX p6 (n5 + 1), p7] 1 0, lawSum [p0, p1, p2, p3, p4, p5, bX p6 (n5 + 1), p7] 2 0] = [(n5 + 1) * 0, (n5 + 1) * 1, (n5 + 1) * 1]
    rw [ls_0_0, ls_1_0, ls_2_0, off_0_6 h hp, off_1_6 h hp hv, off_2_6 h hp hv]
    simp
  · show [lawSum [p0, p1, p2, p3, p4, p5, p6, bX p7 (n5 + 1)] 0 0, lawSum [p0, p1, p2, p3, p4, p5, p6, bX p7 (n5 + 1)] 1 0, lawSum [p0, p1, p2, p3, p4, p5, p6, bX p7 (n5 + 1)] 2 0] = [(n5 + 1) * 1, (n5 + 1) * 1, (n5 + 1) * 1]
    rw [ls_0_0, ls_1_0, ls_2_0, off_0_7 h hp hv, off_1_7 h hp hv, off_2_7 h hp hv]
    simp
theorem left_1_2 (h : CodeW p0 p1 p2 p3 p4 p5 p6 p7) : (((List.take (1 : Int).toNat [p0, p1, p2, p3, p4, p5, p6, p7] ++ [0] ++ List.take (min (2 : Int).toNat [p0, p1, p2, p3, p4, p5, p6, p7].length - ((1 : Int) + 1).toNat) (List.drop ((1 : Int) + 1).toNat [p0, p1, p2, p3, p4, p5, p6, p7]) ++ [0] ++ List.drop ((2 : Int) + 1).toNat [p0, p1, p2, p3, p4, p5, p6, p7]).set (2 : Int).toNat (lawSum (List.take (1 : Int).toNat [p0, p1, p2, p3, p4, p5, p6, p7] ++ [0] ++ List.take (min (2 : Int).toNat [p0, p1, p2, p3, p4, p5, p6, p7].length - ((1 : Int) + 1).toNat) (List.drop ((1 : Int) + 1).toNat [p0, p1, p2, p3, p4, p5, p6, p7]) ++ [0] ++ List.drop ((2 : Int) + 1).toNat [p0, p1, p2, p3, p4, p5, p6, p7]) (((Builtin.Int.intBits (Builtin.bitXor 1 2) : Nat) : Int) - 1) 2)).set (1 : Int).toNat (lawSum ((List.take (1 : Int).toNat [p0, p1, p2, p3, p4, p5, p6, p7] ++ [0] ++ List.take (min (2 : Int).toNat [p0, p1, p2, p3, p4, p5, p6, p7].length - ((1 : Int) + 1).toNat) (List.drop ((1 : Int) + 1).toNat [p0, p1, p2, p3, p4, p5, p6, p7]) ++ [0] ++ List.drop ((2 : Int) + 1).toNat [p0, p1, p2, p3, p4, p5, p6, p7]).set (2 : Int).toNat (lawSum (List.take (1 : Int).toNat [p0, p1, p2, p3, p4, p5, p6, p7] ++ [0] ++ List.take (min (2 : Int).toNat [p0, p1, p2, p3, p4, p5, p6, p7].length - ((1 : Int) + 1).toNat) (List.drop ((1 : Int) + 1).toNat [p0, p1, p2, p3, p4, p5, p6, p7]) ++ [0] ++ List.drop ((2 : Int) + 1).toNat [p0, p1, p2, p3, p4, p5, p6, p7]) (((Builtin.Int.intBits (Builtin.bitXor 1 2) : Nat) : Int) - 1) 2)) (((Builtin.Int.intBits 1 : Nat) : Int) - 1) 1)) = [p0, p1, p2, p3, p4, p5, p6, p7] := by
  have e1 : ((Builtin.Int.intBits (Builtin.bitXor 1 2) : Nat) : Int) - 1 = 1 := by decide +kernel
  have e2 : ((Builtin.Int.intBits 1 : Nat) : Int) - 1 = 0 := by decide +kernel
  rw [e1, e2]
  show List.set (List.set [p0, 0, 0, p3, p4, p5, p6, p7] 2 (lawSum [p0, 0, 0, p3, p4, p5, p6, p7] 1 2)) 1 (lawSum (List.set [p0, 0, 0, p3, p4, p5, p6, p7] 2 (lawSum [p0, 0, 0, p3, p4, p5, p6, p7] 1 2)) 0 1) = [p0, p1, p2, p3, p4, p5, p6, p7]
  rw [ls_1_2, h.i12]
  show List.set [p0, 0, p2, p3, p4, p5, p6, p7] 1 (lawSum [p0, 0, p2, p3, p4, p5, p6, p7] 0 1) = [p0, p1, p2, p3, p4, p5, p6, p7]
  rw [ls_0_1, h.i01]
  rfl
theorem left_1_3 (h : CodeW p0 p1 p2 p3 p4 p5 p6 p7) : (((List.take (1 : Int).toNat [p0, p1, p2, p3, p4, p5, p6, p7] ++ [0] ++ List.take (min (3 : Int).toNat [p0, p1, p2, p3, p4, p5, p6, p7].length - ((1 : Int) + 1).toNat) (List.drop ((1 : Int) + 1).toNat [p0, p1, p2, p3, p4, p5, p6, p7]) ++ [0] ++ List.drop ((3 : Int) + 1).toNat [p0, p1, p2, p3, p4, p5, p6, p7]).set (3 : Int).toNat (lawSum (List.take (1 : Int).toNat [p0, p1, p2, p3, p4, p5, p6, p7] ++ [0] ++ List.take (min (3 : Int).toNat [p0, p1, p2, p3, p4, p5, p6, p7].length - ((1 : Int) + 1).toNat) (List.drop ((1 : Int) + 1).toNat [p0, p1, p2, p3, p4, p5, p6, p7]) ++ [0] ++ List.drop ((3 : Int) + 1).toNat [p0, p1, p2, p3, p4, p5, p6, p7]) (((Builtin.Int.intBits (Builtin.bitXor 1 3) : Nat) : Int) - 1) 3)).set (1 : Int).toNat (lawSum ((List.take (1 : Int).toNat [p0, p1, p2, p3, p4, p5, p6, p7] ++ [0] ++ List.take (min (3 : Int).toNat [p0, p1, p2, p3, p4, p5, p6, p7].length - ((1 : Int) + 1).toNat) (List.drop ((1 : Int) + 1).toNat [p0, p1, p2, p3, p4, p5, p6, p7]) ++ [0] ++ List.drop ((3 : Int) + 1).toNat [p0, p1, p2, p3, p4, p5, p6, p7]).set (3 : Int).toNat (lawSum (List.take (1 : Int).toNat [p0, p1, p2, p3, p4, p5, p6, p7] ++ [0] ++ List.take (min (3 : Int).toNat [p0, p1, p2, p3, p4, p5, p6, p7].length - ((1 : Int) + 1).toNat) (List.drop ((1 : Int) + 1).toNat [p0, p1, p2, p3, p4, p5, p6, p7]) ++ [0] ++ List.drop ((3 : Int) + 1).toNat [p0, p1, p2, p3, p4, p5, p6, p7]) (((Builtin.Int.intBits (Builtin.bitXor 1 3) : Nat) : Int) - 1) 3)) (((Builtin.Int.intBits 1 : Nat) : Int) - 1) 1)) = [p0, p1, p2, p3, p4, p5, p6, p7] := by
  have e1 : ((Builtin.Int.intBits (Builtin.bitXor 1 3) : Nat) : Int) - 1 = 1 := by decide +kernel
  have e2 : ((Builtin.Int.intBits 1 : Nat) : Int) - 1 = 0 := by decide +kernel
  rw [e1, e2]
  show List.set (List.set [p0, 0, p2, 0, p4, p5, p6, p7] 3 (lawSum [p0, 0, p2, 0, p4, p5, p6, p7] 1 3)) 1 (lawSum (List.set [p0, 0, p2, 0, p4, p5, p6, p7] 3 (lawSum [p0, 0, p2, 0, p4, p5, p6, p7] 1 3)) 0 1) = [p0, p1, p2, p3, p4, p5, p6, p7]
  rw [ls_1_3, h.i13]
  show List.set [p0, 0, p2, p3, p4, p5, p6, p7] 1 (lawSum [p0, 0, p2, p3, p4, p5, p6, p7] 0 1) = [p0, p1, p2, p3, p4, p5, p6, p7]
  rw [ls_0_1, h.i01]
  rfl
theorem left_2_3 (h : CodeW p0 p1 p2 p3 p4 p5 p6 p7) : (((List.take (2 : Int).toNat [p0, p1, p2, p3, p4, p5, p6, p7] ++ [0] ++ List.take (min (3 : Int).toNat [p0, p1, p2, p3, p4, p5, p6, p7].length - ((2 : Int) + 1).toNat) (List.drop ((2 : Int) + 1).toNat [p0, p1, p2, p3, p4, p5, p6, p7]) ++ [0] ++ List.drop ((3 : Int) + 1).toNat [p0, p1, p2, p3, p4, p5, p6, p7]).set (3 : Int).toNat (lawSum (List.take (2 : Int).toNat [p0, p1, p2, p3, p4, p5, p6, p7] ++ [0] ++ List.take (min (3 : Int).toNat [p0, p1, p2, p3, p4, p5, p6, p7].length - ((2 : Int) + 1).toNat) (List.drop ((2 : Int) + 1).toNat [p0, p1, p2, p3, p4, p5, p6, p7]) ++ [0] ++ List.drop ((3 : Int) + 1).toNat [p0, p1, p2, p3, p4, p5, p6, p7]) (((Builtin.Int.intBits (Builtin.bitXor 2 3) : Nat) : Int) - 1) 3)).set (2 : Int).toNat (lawSum ((List.take (2 : Int).toNat [p0, p1, p2, p3, p4, p5, p6, p7] ++ [0] ++ List.take (min (3 : Int).toNat [p0, p1, p2, p3, p4, p5, p6, p7].length - ((2 : Int) + 1).toNat) (List.drop ((2 : Int) + 1).toNat [p0, p1, p2, p3, p4, p5, p6, p7]) ++ [0] ++ List.drop ((3 : Int) + 1).toNat [p0, p1, p2, p3, p4, p5, p6, p7]).set (3 : Int).toNat (lawSum (List.take (2 : Int).toNat [p0, p1, p2, p3, p4, p5, p6, p7] ++ [0] ++ List.take (min (3 : Int).toNat [p0, p1, p2, p3, p4, p5, p6, p7].length - ((2 : Int) + 1).toNat) (List.drop ((2 : Int) + 1).toNat [p0, p1, p2, p3, p4, p5, p6, p7]) ++ [0] ++ List.drop ((3 : Int) + 1).toNat [p0, p1, p2, p3, p4, p5, p6, p7]) (((Builtin.Int.intBits (Builtin.bitXor 2 3) : Nat) : Int) - 1) 3)) (((Builtin.Int.intBits 2 : Nat) : Int) - 1) 2)) = [p0, p1, p2, p3, p4, p5, p6, p7] := by
  have e1 : ((Builtin.Int.intBits (Builtin.bitXor 2 3) : Nat) : Int) - 1 = 0 := by decide +kernel
  have e2 : ((Builtin.Int.intBits 2 : Nat) : Int) - 1 = 1 := by decide +kernel
  rw [e1, e2]
  show List.set (List.set [p0, p1, 0, 0, p4, p5, p6, p7] 3 (lawSum [p0, p1, 0, 0, p4, p5, p6, p7] 0 3)) 2 (lawSum (List.set [p0, p1, 0, 0, p4, p5, p6, p7] 3 (lawSum [p0, p1, 0, 0, p4, p5, p6, p7] 0 3)) 1 2) = [p0, p1, p2, p3, p4, p5, p6, p7]
  rw [ls_0_3, h.i03]
  show List.set [p0, p1, 0, p3, p4, p5, p6, p7] 2 (lawSum [p0, p1, 0, p3, p4, p5, p6, p7] 1 2) = [p0, p1, p2, p3, p4, p5, p6, p7]
  rw [ls_1_2, h.i12]
  rfl
theorem left_1_4 (h : CodeW p0 p1 p2 p3 p4 p5 p6 p7) : (((List.take (1 : Int).toNat [p0, p1, p2, p3, p4, p5, p6, p7] ++ [0] ++ List.take (min (4 : Int).toNat [p0, p1, p2, p3, p4, p5, p6, p7].length - ((1 : Int) + 1).toNat) (List.drop ((1 : Int) + 1).toNat [p0, p1, p2, p3, p4, p5, p6, p7]) ++ [0] ++ List.drop ((4 : Int) + 1).toNat [p0, p1, p2, p3, p4, p5, p6, p7]).set (4 : Int).toNat (lawSum (List.take (1 : Int).toNat [p0, p1, p2, p3, p4, p5, p6, p7] ++ [0] ++ List.take (min (4 : Int).toNat [p0, p1, p2, p3, p4, p5, p6, p7].length - ((1 : Int) + 1).toNat) (List.drop ((1 : Int) + 1).toNat [p0, p1, p2, p3, p4, p5, p6, p7]) ++ [0] ++ List.drop ((4 : Int) + 1).toNat [p0, p1, p2, p3, p4, p5, p6, p7]) (((Builtin.Int.intBits (Builtin.bitXor 1 4) : Nat) : Int) - 1) 4)).set (1 : Int).toNat (lawSum ((List.take (1 : Int).toNat [p0, p1, p2, p3, p4, p5, p6, p7] ++ [0] ++ List.take (min (4 : Int).toNat [p0, p1, p2, p3, p4, p5, p6, p7].length - ((1 : Int) + 1).toNat) (List.drop ((1 : Int) + 1).toNat [p0, p1, p2, p3, p4, p5, p6, p7]) ++ [0] ++ List.drop ((4 : Int) + 1).toNat [p0, p1, p2, p3, p4, p5, p6, p7]).set (4 : Int).toNat (lawSum (List.take (1 : Int).toNat [p0, p1, p2, p3, p4, p5, p6, p7] ++ [0] ++ List.take (min (4 : Int).toNat [p0, p1, p2, p3, p4, p5, p6, p7].length - ((1 : Int) + 1).toNat) (List.drop ((1 : Int) + 1).toNat [p0, p1, p2, p3, p4, p5, p6, p7]) ++ [0] ++ List.drop ((4 : Int) + 1).toNat [p0, p1, p2, p3, p4, p5, p6, p7]) (((Builtin.Int.intBits (Builtin.bitXor 1 4) : Nat) : Int) - 1) 4)) (((Builtin.Int.intBits 1 : Nat) : Int) - 1) 1)) = [p0, p1, p2, p3, p4, p5, p6, p7] := by
  have e1 : ((Builtin.Int.intBits (Builtin.bitXor 1 4) : Nat) : Int) - 1 = 2 := by decide +kernel
  have e2 : ((Builtin.Int.intBits 1 : Nat) : Int) - 1 = 0 := by decide +kernel
  rw [e1, e2]
  show List.set (List.set [p0, 0, p2, p3, 0, p5, p6, p7] 4 (lawSum [p0, 0, p2, p3, 0, p5, p6, p7] 2 4)) 1 (lawSum (List.set [p0, 0, p2, p3, 0, p5, p6, p7] 4 (lawSum [p0, 0, p2, p3, 0, p5, p6, p7] 2 4)) 0 1) = [p0, p1, p2, p3, p4, p5, p6, p7]
  rw [ls_2_4, h.i24]
  show List.set [p0, 0, p2, p3, p4, p5, p6, p7] 1 (lawSum [p0, 0, p2, p3, p4, p5, p6, p7] 0 1) = [p0, p1, p2, p3, p4, p5, p6, p7]
  rw [ls_0_1, h.i01]
  rfl
theorem left_2_4 (h : CodeW p0 p1 p2 p3 p4 p5 p6 p7) : (((List.take (2 : Int).toNat [p0, p1, p2, p3, p4, p5, p6, p7] ++ [0] ++ List.take (min (4 : Int).toNat [p0, p1, p2, p3, p4, p5, p6, p7].length - ((2 : Int) + 1).toNat) (List.drop ((2 : Int) + 1).toNat [p0, p1, p2, p3, p4, p5, p6, p7]) ++ [0] ++ List.drop ((4 : Int) + 1).toNat [p0, p1, p2, p3, p4, p5, p6, p7]).set (4 : Int).toNat (lawSum (List.take (2 : Int).toNat [p0, p1, p2, p3, p4, p5, p6, p7] ++ [0] ++ List.take (min (4 : Int).toNat [p0, p1, p2, p3, p4, p5, p6, p7].length - ((2 : Int) + 1).toNat) (List.drop ((2 : Int) + 1).toNat [p0, p1, p2, p3, p4, p5, p6, p7]) ++ [0] ++ List.drop ((4 : Int) + 1).toNat [p0, p1, p2, p3, p4, p5, p6, p7]) (((Builtin.Int.intBits (Builtin.bitXor 2 4) : Nat) : Int) - 1) 4)).set (2 : Int).toNat (lawSum ((List.take (2 : Int).toNat [p0, p1, p2, p3, p4, p5, p6, p7] ++ [0] ++ List.take (min (4 : Int).toNat [p0, p1, p2, p3, p4, p5, p6, p7].length - ((2 : Int) + 1).toNat) (List.drop ((2 : Int) + 1).toNat [p0, p1, p2, p3, p4, p5, p6, p7]) ++ [0] ++ List.drop ((4 : Int) + 1).toNat [p0, p1, p2, p3, p4, p5, p6, p7]).set (4 : Int).toNat (lawSum (List.take (2 : Int).toNat [p0, p1, p2, p3, p4, p5, p6, p7] ++ [0] ++ List.take (min (4 : Int).toNat [p0, p1, p2, p3, p4, p5, p6, p7].length - ((2 : Int) + 1).toNat) (List.drop ((2 : Int) + 1).toNat [p0, p1, p2, p3, p4, p5, p6, p7]) ++ [0] ++ List.drop ((4 : Int) + 1).toNat [p0, p1, p2, p3, p4, p5, p6, p7]) (((Builtin.Int.intBits (Builtin.bitXor 2 4) : Nat) : Int) - 1) 4)) (((Builtin.Int.intBits 2 : Nat) : Int) - 1) 2)) = [p0, p1, p2, p3, p4, p5, p6, p7] := by
  have e1 : ((Builtin.Int.intBits (Builtin.bitXor 2 4) : Nat) : Int) - 1 = 2 := by decide +kernel
  have e2 : ((Builtin.Int.intBits 2 : Nat) : Int) - 1 = 1 := by decide +kernel
  rw [e1, e2]
  show List.set (List.set [p0, p1, 0, p3, 0, p5, p6, p7] 4 (lawSum [p0, p1, 0, p3, 0, p5, p6, p7] 2 4)) 2 (lawSum (List.set [p0, p1, 0, p3, 0, p5, p6, p7] 4 (lawSum [p0, p1, 0, p3, 0, p5, p6, p7] 2 4)) 1 2) = [p0, p1, p2, p3, p4, p5, p6, p7]
  rw [ls_2_4, h.i24]
  show List.set [p0, p1, 0, p3, p4, p5, p6, p7] 2 (lawSum [p0, p1, 0, p3, p4, p5, p6, p7] 1 2) = [p0, p1, p2, p3, p4, p5, p6, p7]
  rw [ls_1_2, h.i12]
  rfl
theorem left_3_4 (h : CodeW p0 p1 p2 p3 p4 p5 p6 p7) : (((List.take (3 : Int).toNat [p0, p1, p2, p3, p4, p5, p6, p7] ++ [0] ++ List.take (min (4 : Int).toNat [p0, p1, p2, p3, p4, p5, p6, p7].length - ((3 : Int) + 1).toNat) (List.drop ((3 : Int) + 1).toNat [p0, p1, p2, p3, p4, p5, p6, p7]) ++ [0] ++ List.drop ((4 : Int) + 1).toNat [p0, p1, p2, p3, p4, p5, p6, p7]).set (4 : Int).toNat (lawSum (List.take (3 : Int).toNat [p0, p1, p2, p3, p4, p5, p6, p7] ++ [0] ++ List.take (min (4 : Int).toNat [p0, p1, p2, p3, p4, p5, p6, p7].length - ((3 : Int) + 1).toNat) (List.drop ((3 : Int) + 1).toNat [p0, p1, p2, p3, p4, p5, p6, p7]) ++ [0] ++ List.drop ((4 : Int) + 1).toNat [p0, p1, p2, p3, p4, p5, p6, p7]) (((Builtin.Int.intBits (Builtin.bitXor 3 4) : Nat) : Int) - 1) 4)).set (3 : Int).toNat (lawSum ((List.take (3 : Int).toNat [p0, p1, p2, p3, p4, p5, p6, p7] ++ [0] ++ List.take (min (4 : Int).toNat [p0, p1, p2, p3, p4, p5, p6, p7].length - ((3 : Int) + 1).toNat) (List.drop ((3 : Int) + 1).toNat [p0, p1, p2, p3, p4, p5, p6, p7]) ++ [0] ++ List.drop ((4 : Int) + 1).toNat [p0, p1, p2, p3, p4, p5, p6, p7]).set (4 : Int).toNat (lawSum (List.take (3 : Int).toNat [p0, p1, p2, p3, p4, p5, p6, p7] ++ [0] ++ List.take (min (4 : Int).toNat [p0, p1, p2, p3, p4, p5, p6, p7].length - ((3 : Int) + 1).toNat) (List.drop ((3 : Int) + 1).toNat [p0, p1, p2, p3, p4, p5, p6, p7]) ++ [0] ++ List.drop ((4 : Int) + 1).toNat [p0, p1, p2, p3, p4, p5, p6, p7]) (((Builtin.Int.intBits (Builtin.bitXor 3 4) : Nat) : Int) - 1) 4)) (((Builtin.Int.intBits 3 : Nat) : Int) - 1) 3)) = [p0, p1, p2, p3, p4, p5, p6, p7] := by
  have e1 : ((Builtin.Int.intBits (Builtin.bitXor 3 4) : Nat) : Int) - 1 = 2 := by decide +kernel
  have e2 : ((Builtin.Int.intBits 3 : Nat) : Int) - 1 = 1 := by decide +kernel
  rw [e1, e2]
  show List.set (List.set [p0, p1, p2, 0, 0, p5, p6, p7] 4 (lawSum [p0, p1, p2, 0, 0, p5, p6, p7] 2 4)) 3 (lawSum (List.set [p0, p1, p2, 0, 0, p5, p6, p7] 4 (lawSum [p0, p1, p2, 0, 0, p5, p6, p7] 2 4)) 1 3) = [p0, p1, p2, p3, p4, p5, p6, p7]
  rw [ls_2_4, h.i24]
  show List.set [p0, p1, p2, 0, p4, p5, p6, p7] 3 (lawSum [p0, p1, p2, 0, p4, p5, p6, p7] 1 3) = [p0, p1, p2, p3, p4, p5, p6, p7]
  rw [ls_1_3, h.i13]
  rfl
theorem left_1_5 (h : CodeW p0 p1 p2 p3 p4 p5 p6 p7) : (((List.take (1 : Int).toNat [p0, p1, p2, p3, p4, p5, p6, p7] ++ [0] ++ List.take (min (5 : Int).toNat [p0, p1, p2, p3, p4, p5, p6, p7].length - ((1 : Int) + 1).toNat) (List.drop ((1 : Int) + 1).toNat [p0, p1, p2, p3, p4, p5, p6, p7]) ++ [0] ++ List.drop ((5 : Int) + 1).toNat [p0, p1, p2, p3, p4, p5, p6, p7]).set (5 : Int).toNat (lawSum (List.take (1 : Int).toNat [p0, p1, p2, p3, p4, p5, p6, p7] ++ [0] ++ List.take (min (5 : Int).toNat [p0, p1, p2, p3, p4, p5, p6, p7].length - ((1 : Int) + 1).toNat) (List.drop ((1 : Int) + 1).toNat [p0, p1, p2, p3, p4, p5, p6, p7]) ++ [0] ++ List.drop ((5 : Int) + 1).toNat [p0, p1, p2, p3, p4, p5, p6, p7]) (((Builtin.Int.intBits (Builtin.bitXor 1 5) : Nat) : Int) - 1) 5)).set (1 : Int).toNat (lawSum ((List.take (1 : Int).toNat [p0, p1, p2, p3, p4, p5, p6, p7] ++ [0] ++ List.take (min (5 : Int).toNat [p0, p1, p2, p3, p4, p5, p6, p7].length - ((1 : Int) + 1).toNat) (List.drop ((1 : Int) + 1).toNat [p0, p1, p2, p3, p4, p5, p6, p7]) ++ [0] ++ List.drop ((5 : Int) + 1).toNat [p0, p1, p2, p3, p4, p5, p6, p7]).set (5 : Int).toNat (lawSum (List.take (1 : Int).toNat [p0, p1, p2, p3, p4, p5, p6, p7] ++ [0] ++ List.take (min (5 : Int).toNat [p0, p1, p2, p3, p4, p5, p6, p7].length - ((1 : Int) + 1).toNat) (List.drop ((1 : Int) + 1).toNat [p0, p1, p2, p3, p4, p5, p6, p7]) ++ [0] ++ List.drop ((5 : Int) + 1).toNat [p0, p1, p2, p3, p4, p5, p6, p7]) (((Builtin.Int.intBits (Builtin.bitXor 1 5) : Nat) : Int) - 1) 5)) (((Builtin.Int.intBits 1 : Nat) : Int) - 1) 1)) = [p0, p1, p2, p3, p4, p5, p6, p7] := by
  have e1 : ((Builtin.Int.intBits (Builtin.bitXor 1 5) : Nat) : Int) - 1 = 2 := by decide +kernel
  have e2 : ((Builtin.Int.intBits 1 : Nat) : Int) - 1 = 0 := by decide +kernel
  rw [e1, e2]
  show List.set (List.set [p0, 0, p2, p3, p4, 0, p6, p7] 5 (lawSum [p0, 0, p2, p3, p4, 0, p6, p7] 2 5)) 1 (lawSum (List.set [p0, 0, p2, p3, p4, 0, p6, p7] 5 (lawSum [p0, 0, p2, p3, p4, 0, p6, p7] 2 5)) 0 1) = [p0, p1, p2, p3, p4, p5, p6, p7]
  rw [ls_2_5, h.i25]
  show List.set [p0, 0, p2, p3, p4, p5, p6, p7] 1 (lawSum [p0, 0, p2, p3, p4, p5, p6, p7] 0 1) = [p0, p1, p2, p3, p4, p5, p6, p7]
  rw [ls_0_1, h.i01]
  rfl
theorem left_2_5 (h : CodeW p0 p1 p2 p3 p4 p5 p6 p7) : (((List.take (2 : Int).toNat [p0, p1, p2, p3, p4, p5, p6, p7] ++ [0] ++ List.take (min (5 : Int).toNat [p0, p1, p2, p3, p4, p5, p6, p7].length - ((2 : Int) + 1).toNat) (List.drop ((2 : Int) + 1).toNat [p0, p1, p2, p3, p4, p5, p6, p7]) ++ [0] ++ List.drop ((5 : Int) + 1).toNat [p0, p1, p2, p3, p4, p5, p6, p7]).set (5 : Int).toNat (lawSum (List.take (2 : Int).toNat [p0, p1, p2, p3, p4, p5, p6, p7] ++ [0] ++ List.take (min (5 : Int).toNat [p0, p1, p2, p3, p4, p5, p6, p7].length - ((2 : Int) + 1).toNat) (List.drop ((2 : Int) + 1).toNat [p0, p1, p2, p3, p4, p5, p6, p7]) ++ [0] ++ List.drop ((5 : Int) + 1).toNat [p0, p1, p2, p3, p4, p5, p6, p7]) (((Builtin.Int.intBits (Builtin.bitXor 2 5) : Nat) : Int) - 1) 5)).set (2 : Int).toNat (lawSum ((List.take (2 : Int).toNat [p0, p1, p2, p3, p4, p5, p6, p7] ++ [0] ++ List.take (min (5 : Int).toNat [p0, p1, p2, p3, p4, p5, p6, p7].length - ((2 : Int) + 1).toNat) (List.drop ((2 : Int) + 1).toNat [p0, p1, p2, p3, p4, p5, p6, p7]) ++ [0] ++ List.drop ((5 : Int) + 1).toNat [p0, p1, p2, p3, p4, p5, p6, p7]).set (5 : Int).toNat (lawSum (List.take (2 : Int).toNat [p0, p1, p2, p3, p4, p5, p6, p7] ++ [0] ++ List.take (min (5 : Int).toNat [p0, p1, p2, p3, p4, p5, p6, p7].length - ((2 : Int) + 1).toNat) (List.drop ((2 : Int) + 1).toNat [p0, p1, p2, p3, p4, p5, p6, p7]) ++ [0] ++ List.drop ((5 : Int) + 1).toNat [p0, p1, p2, p3, p4, p5, p6, p7]) (((Builtin.Int.intBits (Builtin.bitXor 2 5) : Nat) : Int) - 1) 5)) (((Builtin.Int.intBits 2 : Nat) : Int) - 1) 2)) = [p0, p1, p2, p3, p4, p5, p6, p7] := by
  have e1 : ((Builtin.Int.intBits (Builtin.bitXor 2 5) : Nat) : Int) - 1 = 2 := by decide +kernel
  have e2 : ((Builtin.Int.intBits 2 : Nat) : Int) - 1 = 1 := by decide +kernel
  rw [e1, e2]
  show List.set (List.set [p0, p1, 0, p3, p4, 0, p6, p7] 5 (lawSum [p0, p1, 0, p3, p4, 0, p6, p7] 2 5)) 2 (lawSum (List.set [p0, p1, 0, p3, p4, 0, p6, p7] 5 (lawSum [p0, p1, 0, p3, p4, 0, p6, p7] 2 5)) 1 2) = [p0, p1, p2, p3, p4, p5, p6, p7]
  rw [ls_2_5, h.i25]
  show List.set [p0, p1, 0, p3, p4, p5, p6, p7] 2 (lawSum [p0, p1, 0, p3, p4, p5, p6, p7] 1 2) = [p0, p1, p2, p3, p4, p5, p6, p7]
  rw [ls_1_2, h.i12]
  rfl
theorem left_3_5 (h : CodeW p0 p1 p2 p3 p4 p5 p6 p7) : (((List.take (3 : Int).toNat [p0, p1, p2, p3, p4, p5, p6, p7] ++ [0] ++ List.take (min (5 : Int).toNat [p0, p1, p2, p3, p4, p5, p6, p7].length - ((3 : Int) + 1).toNat) (List.drop ((3 : Int) + 1).toNat [p0, p1, p2, p3, p4, p5, p6, p7]) ++ [0] ++ List.drop ((5 : Int) + 1).toNat [p0, p1, p2, p3, p4, p5, p6, p7]).set (5 : Int).toNat (lawSum (List.take (3 : Int).toNat [p0, p1, p2, p3, p4, p5, p6, p7] ++ [0] ++ List.take (min (5 : Int).toNat [p0, p1, p2, p3, p4, p5, p6, p7].length - ((3 : Int) + 1).toNat) (List.drop ((3 : Int) + 1).toNat [p0, p1, p2, p3, p4, p5, p6, p7]) ++ [0] ++ List.drop ((5 : Int) + 1).toNat [p0, p1, p2, p3, p4, p5, p6, p7]) (((Builtin.Int.intBits (Builtin.bitXor 3 5) : Nat) : Int) - 1) 5)).set (3 : Int).toNat (lawSum ((List.take (3 : Int).toNat [p0, p1, p2, p3, p4, p5, p6, p7] ++ [0] ++ List.take (min (5 : Int).toNat [p0, p1, p2, p3, p4, p5, p6, p7].length - ((3 : Int) + 1).toNat) (List.drop ((3 : Int) + 1).toNat [p0, p1, p2, p3, p4, p5, p6, p7]) ++ [0] ++ List.drop ((5 : Int) + 1).toNat [p0, p1, p2, p3, p4, p5, p6, p7]).set (5 : Int).toNat (lawSum (List.take (3 : Int).toNat [p0, p1, p2, p3, p4, p5, p6, p7] ++ [0] ++ List.take (min (5 : Int).toNat [p0, p1, p2, p3, p4, p5, p6, p7].length - ((3 : Int) + 1).toNat) (List.drop ((3 : Int) + 1).toNat [p0, p1, p2, p3, p4, p5, p6, p7]) ++ [0] ++ List.drop ((5 : Int) + 1).toNat [p0, p1, p2, p3, p4, p5, p6, p7]) (((Builtin.Int.intBits (Builtin.bitXor 3 5) : Nat) : Int) - 1) 5)) (((Builtin.Int.intBits 3 : Nat) : Int) - 1) 3)) = [p0, p1, p2, p3, p4, p5, p6, p7] := by
  have e1 : ((Builtin.Int.intBits (Builtin.bitXor 3 5) : Nat) : Int) - 1 = 2 := by decide +kernel
  have e2 : ((Builtin.Int.intBits 3 : Nat) : Int) - 1 = 1 := by decide +kernel
  rw [e1, e2]
  show List.set (List.set [p0, p1, p2, 0, p4, 0, p6, p7] 5 (lawSum [p0, p1, p2, 0, p4, 0, p6, p7] 2 5)) 3 (lawSum (List.set [p0, p1, p2, 0, p4, 0, p6, p7] 5 (lawSum [p0, p1, p2, 0, p4, 0, p6, p7] 2 5)) 1 3) = [p0, p1, p2, p3, p4, p5, p6, p7]
  rw [ls_2_5, h.i25]
  show List.set [p0, p1, p2, 0, p4, p5, p6, p7] 3 (lawSum [p0, p1, p2, 0, p4, p5, p6, p7] 1 3) = [p0, p1, p2, p3, p4, p5, p6, p7]
  rw [ls_1_3, h.i13]
  rfl
theorem left_4_5 (h : CodeW p0 p1 p2 p3 p4 p5 p6 p7) : (((List.take (4 : Int).toNat [p0, p1, p2, p3, p4, p5, p6, p7] ++ [0] ++ List.take (min (5 : Int).toNat [p0, p1, p2, p3, p4, p5, p6, p7].length - ((4 : Int) + 1).toNat) (List.drop ((4 : Int) + 1).toNat [p0, p1, p2, p3, p4, p5, p6, p7]) ++ [0] ++ List.drop ((5 : Int) + 1).toNat [p0, p1, p2, p3, p4, p5, p6, p7]).set (5 : Int).toNat (lawSum (List.take (4 : Int).toNat [p0, p1, p2, p3, p4, p5, p6, p7] ++ [0] ++ List.take (min (5 : Int).toNat [p0, p1, p2, p3, p4, p5, p6, p7].length - ((4 : Int) + 1).toNat) (List.drop ((4 : Int) + 1).toNat [p0, p1, p2, p3, p4, p5, p6, p7]) ++ [0] ++ List.drop ((5 : Int) + 1).toNat [p0, p1, p2, p3, p4, p5, p6, p7]) (((Builtin.Int.intBits (Builtin.bitXor 4 5) : Nat) : Int) - 1) 5)).set (4 : Int).toNat (lawSum ((List.take (4 : Int).toNat [p0, p1, p2, p3, p4, p5, p6, p7] ++ [0] ++ List.take (min (5 : Int).toNat [p0, p1, p2, p3, p4, p5, p6, p7].length - ((4 : Int) + 1).toNat) (List.drop ((4 : Int) + 1).toNat [p0, p1, p2, p3, p4, p5, p6, p7]) ++ [0] ++ List.drop ((5 : Int) + 1).toNat [p0, p1, p2, p3, p4, p5, p6, p7]).set (5 : Int).toNat (lawSum (List.take (4 : Int).toNat [p0, p1, p2, p3, p4, p5, p6, p7] ++ [0] ++ List.take (min (5 : Int).toNat [p0, p1, p2, p3, p4, p5, p6, p7].length - ((4 : Int) + 1).toNat) (List.drop ((4 : Int) + 1).toNat [p0, p1, p2, p3, p4, p5, p6, p7]) ++ [0] ++ List.drop ((5 : Int) + 1).toNat [p0, p1, p2, p3, p4, p5, p6, p7]) (((Builtin.Int.intBits (Builtin.bitXor 4 5) : Nat) : Int) - 1) 5)) (((Builtin.Int.intBits 4 : Nat) : Int) - 1) 4)) = [p0, p1, p2, p3, p4, p5, p6, p7] := by
  have e1 : ((Builtin.Int.intBits (Builtin.bitXor 4 5) : Nat) : Int) - 1 = 0 := by decide +kernel
  have e2 : ((Builtin.Int.intBits 4 : Nat) : Int) - 1 = 2 := by decide +kernel
  rw [e1, e2]
  show List.set (List.set [p0, p1, p2, p3, 0, 0, p6, p7] 5 (lawSum [p0, p1, p2, p3, 0, 0, p6, p7] 0 5)) 4 (lawSum (List.set [p0, p1, p2, p3, 0, 0, p6, p7] 5 (lawSum [p0, p1, p2, p3, 0, 0, p6, p7] 0 5)) 2 4) = [p0, p1, p2, p3, p4, p5, p6, p7]
  rw [ls_0_5, h.i05]
  show List.set [p0, p1, p2, p3, 0, p5, p6, p7] 4 (lawSum [p0, p1, p2, p3, 0, p5, p6, p7] 2 4) = [p0, p1, p2, p3, p4, p5, p6, p7]
  rw [ls_2_4, h.i24]
  rfl
theorem left_1_6 (h : CodeW p0 p1 p2 p3 p4 p5 p6 p7) : (((List.take (1 : Int).toNat [p0, p1, p2, p3, p4, p5, p6, p7] ++ [0] ++ List.take (min (6 : Int).toNat [p0, p1, p2, p3, p4, p5, p6, p7].length - ((1 : Int) + 1).toNat) (List.drop ((1 : Int) + 1).toNat [p0, p1, p2, p3, p4, p5, p6, p7]) ++ [0] ++ List.drop ((6 : Int) + 1).toNat [p0, p1, p2, p3, p4, p5, p6, p7]).set (6 : Int).toNat (lawSum (List.take (1 : Int).toNat [p0, p1, p2, p3, p4, p5, p6, p7] ++ [0] ++ List.take (min (6 : Int).toNat [p0, p1, p2, p3, p4, p5, p6, p7].length - ((1 : Int) + 1).toNat) (List.drop ((1 : Int) + 1).toNat [p0, p1, p2, p3, p4, p5, p6, p7]) ++ [0] ++ List.drop ((6 : Int) + 1).toNat [p0, p1, p2, p3, p4, p5, p6, p7]) (((Builtin.Int.intBits (Builtin.bitXor 1 6) : Nat) : Int) - 1) 6)).set (1 : Int).toNat (lawSum ((List.take (1 : Int).toNat [p0, p1, p2, p3, p4, p5, p6, p7] ++ [0] ++ List.take (min (6 : Int).toNat [p0, p1, p2, p3, p4, p5, p6, p7].length - ((1 : Int) + 1).toNat) (List.drop ((1 : Int) + 1).toNat [p0, p1, p2, p3, p4, p5, p6, p7]) ++ [0] ++ List.drop ((6 : Int) + 1).toNat [p0, p1, p2, p3, p4, p5, p6, p7]).set (6 : Int).toNat (lawSum (List.take (1 : Int).toNat [p0, p1, p2, p3, p4, p5, p6, p7] ++ [0] ++ List.take (min (6 : Int).toNat [p0, p1, p2, p3, p4, p5, p6, p7].length - ((1 : Int) + 1).toNat) (List.drop ((1 : Int) + 1).toNat [p0, p1, p2, p3, p4, p5, p6, p7]) ++ [0] ++ List.drop ((6 : Int) + 1).toNat [p0, p1, p2, p3, p4, p5, p6, p7]) (((Builtin.Int.intBits (Builtin.bitXor 1 6) : Nat) : Int) - 1) 6)) (((Builtin.Int.intBits 1 : Nat) : Int) - 1) 1)) = [p0, p1, p2, p3, p4, p5, p6, p7] := by
  have e1 : ((Builtin.Int.intBits (Builtin.bitXor 1 6) : Nat) : Int) - 1 = 2 := by decide +kernel
  have e2 : ((Builtin.Int.intBits 1 : Nat) : Int) - 1 = 0 := by decide +kernel
  rw [e1, e2]
  show List.set (List.set [p0, 0, p2, p3, p4, p5, 0, p7] 6 (lawSum [p0, 0, p2, p3, p4, p5, 0, p7] 2 6)) 1 (lawSum (List.set [p0, 0, p2, p3, p4, p5, 0, p7] 6 (lawSum [p0, 0, p2, p3, p4, p5, 0, p7] 2 6)) 0 1) = [p0, p1, p2, p3, p4, p5, p6, p7]
  rw [ls_2_6, h.i26]
  show List.set [p0, 0, p2, p3, p4, p5, p6, p7] 1 (lawSum [p0, 0, p2, p3, p4, p5, p6, p7] 0 1) = [p0, p1, p2, p3, p4, p5, p6, p7]
  rw [ls_0_1, h.i01]
  rfl
theorem left_2_6 (h : CodeW p0 p1 p2 p3 p4 p5 p6 p7) : (((List.take (2 : Int).toNat [p0, p1, p2, p3, p4, p5, p6, p7] ++ [0] ++ List.take (min (6 : Int).toNat [p0, p1, p2, p3, p4, p5, p6, p7].length - ((2 : Int) + 1).toNat) (List.drop ((2 : Int) + 1).toNat [p0, p1, p2, p3, p4, p5, p6, p7]) ++ [0] ++ List.drop ((6 : Int) + 1).toNat [p0, p1, p2, p3, p4, p5, p6, p7]).set (6 : Int).toNat (lawSum (List.take (2 : Int).toNat [p0, p1, p2, p3, p4, p5, p6, p7] ++ [0] ++ List.take (min (6 : Int).toNat [p0, p1, p2, p3, p4, p5, p6, p7].length - ((2 : Int) + 1).toNat) (List.drop ((2 : Int) + 1).toNat [p0, p1, p2, p3, p4, p5, p6, p7]) ++ [0] ++ List.drop ((6 : Int) + 1).toNat [p0, p1, p2, p3, p4, p5, p6, p7]) (((Builtin.Int.intBits (Builtin.bitXor 2 6) : Nat) : Int) - 1) 6)).set (2 : Int).toNat (lawSum ((List.take (2 : Int).toNat [p0, p1, p2, p3, p4, p5, p6, p7] ++ [0] ++ List.take (min (6 : Int).toNat [p0, p1, p2, p3, p4, p5, p6, p7].length - ((2 : Int) + 1).toNat) (List.drop ((2 : Int) + 1).toNat [p0, p1, p2, p3, p4, p5, p6, p7]) ++ [0] ++ List.drop ((6 : Int) + 1).toNat [p0, p1, p2, p3, p4, p5, p6, p7]).set (6 : Int).toNat (lawSum (List.take (2 : Int).toNat [p0, p1, p2, p3, p4, p5, p6, p7] ++ [0] ++ List.take (min (6 : Int).toNat [p0, p1, p2, p3, p4, p5, p6, p7].length - ((2 : Int) + 1).toNat) (List.drop ((2 : Int) + 1).toNat [p0, p1, p2, p3, p4, p5, p6, p7]) ++ [0] ++ List.drop ((6 : Int) + 1).toNat [p0, p1, p2, p3, p4, p5, p6, p7]) (((Builtin.Int.intBits (Builtin.bitXor 2 6) : Nat) : Int) - 1) 6)) (((Builtin.Int.intBits 2 : Nat) : Int) - 1) 2)) = [p0, p1, p2, p3, p4, p5, p6, p7] := by
  have e1 : ((Builtin.Int.intBits (Builtin.bitXor 2 6) : Nat) : Int) - 1 = 2 := by decide +kernel
  have e2 : ((Builtin.Int.intBits 2 : Nat) : Int) - 1 = 1 := by decide +kernel
  rw [e1, e2]
  show List.set (List.set [p0, p1, 0, p3, p4, p5, 0, p7] 6 (lawSum [p0, p1, 0, p3, p4, p5, 0, p7] 2 6)) 2 (lawSum (List.set [p0, p1, 0, p3, p4, p5, 0, p7] 6 (lawSum [p0, p1, 0, p3, p4, p5, 0, p7] 2 6)) 1 2) = [p0, p1, p2, p3, p4, p5, p6, p7]
  rw [ls_2_6, h.i26]
  show List.set [p0, p1, 0, p3, p4, p5, p6, p7] 2 (lawSum [p0, p1, 0, p3, p4, p5, p6, p7] 1 2) = [p0, p1, p2, p3, p4, p5, p6, p7]
  rw [ls_1_2, h.i12]
  rfl
theorem left_3_6 (h : CodeW p0 p1 p2 p3 p4 p5 p6 p7) : (((List.take (3 : Int).toNat [p0, p1, p2, p3, p4, p5, p6, p7] ++ [0] ++ List.take (min (6 : Int).toNat [p0, p1, p2, p3, p4, p5, p6, p7].length - ((3 : Int) + 1).toNat) (List.drop ((3 : Int) + 1).toNat [p0, p1, p2, p3, p4, p5, p6, p7]) ++ [0] ++ List.drop ((6 : Int) + 1).toNat [p0, p1, p2, p3, p4, p5, p6, p7]).set (6 : Int).toNat (lawSum (List.take (3 : Int).toNat [p0, p1, p2, p3, p4, p5, p6, p7] ++ [0] ++ List.take (min (6 : Int).toNat [p0, p1, p2, p3, p4, p5, p6, p7].length - ((3 : Int) + 1).toNat) (List.drop ((3 : Int) + 1).toNat [p0, p1, p2, p3, p4, p5, p6, p7]) ++ [0] ++ List.drop ((6 : Int) + 1).toNat [p0, p1, p2, p3, p4, p5, p6, p7]) (((Builtin.Int.intBits (Builtin.bitXor 3 6) : Nat) : Int) - 1) 6)).set (3 : Int).toNat (lawSum ((List.take (3 : Int).toNat [p0, p1, p2, p3, p4, p5, p6, p7] ++ [0] ++ List.take (min (6 : Int).toNat [p0, p1, p2, p3, p4, p5, p6, p7].length - ((3 : Int) + 1).toNat) (List.drop ((3 : Int) + 1).toNat [p0, p1, p2, p3, p4, p5, p6, p7]) ++ [0] ++ List.drop ((6 : Int) + 1).toNat [p0, p1, p2, p3, p4, p5, p6, p7]).set (6 : Int).toNat (lawSum (List.take (3 : Int).toNat [p0, p1, p2, p3, p4, p5, p6, p7] ++ [0] ++ List.take (min (6 : Int).toNat [p0, p1, p2, p3, p4, p5, p6, p7].length - ((3 : Int) + 1).toNat) (List.drop ((3 : Int) + 1).toNat [p0, p1, p2, p3, p4, p5, p6, p7]) ++ [0] ++ List.drop ((6 : Int) + 1).toNat [p0, p1, p2, p3, p4, p5, p6, p7]) (((Builtin.Int.intBits (Builtin.bitXor 3 6) : Nat) : Int) - 1) 6)) (((Builtin.Int.intBits 3 : Nat) : Int) - 1) 3)) = [p0, p1, p2, p3, p4, p5, p6, p7] := by
  have e1 : ((Builtin.Int.intBits (Builtin.bitXor 3 6) : Nat) : Int) - 1 = 2 := by decide +kernel
  have e2 : ((Builtin.Int.intBits 3 : Nat) : Int) - 1 = 1 := by decide +kernel
  rw [e1, e2]
  show List.set (List.set [p0, p1, p2, 0, p4, p5, 0, p7] 6 (lawSum [p0, p1, p2, 0, p4, p5, 0, p7] 2 6)) 3 (lawSum (List.set [p0, p1, p2, 0, p4, p5, 0, p7] 6 (lawSum [p0, p1, p2, 0, p4, p5, 0, p7] 2 6)) 1 3) = [p0, p1, p2, p3, p4, p5, p6, p7]
  rw [ls_2_6, h.i26]
  show List.set [p0, p1, p2, 0, p4, p5, p6, p7] 3 (lawSum [p0, p1, p2, 0, p4, p5, p6, p7] 1 3) = [p0, p1, p2, p3, p4, p5, p6, p7]
  rw [ls_1_3, h.i13]
  rfl
theorem left_4_6 (h : CodeW p0 p1 p2 p3 p4 p5 p6 p7) : (((List.take (4 : Int).toNat [p0, p1, p2, p3, p4, p5, p6, p7] ++ [0] ++ List.take (min (6 : Int).toNat [p0, p1, p2, p3, p4, p5, p6, p7].length - ((4 : Int) + 1).toNat) (List.drop ((4 : Int) + 1).toNat [p0, p1, p2, p3, p4, p5, p6, p7]) ++ [0] ++ List.drop ((6 : Int) + 1).toNat [p0, p1, p2, p3, p4, p5, p6, p7]).set (6 : Int).toNat (lawSum (List.take (4 : Int).toNat [p0, p1, p2, p3, p4, p5, p6, p7] ++ [0] ++ List.take (min (6 : Int).toNat [p0, p1, p2, p3, p4, p5, p6, p7].length - ((4 : Int) + 1).toNat) (List.drop ((4 : Int) + 1).toNat [p0, p1, p2, p3, p4, p5, p6, p7]) ++ [0] ++ List.drop ((6 : Int) + 1).toNat [p0, p1, p2, p3, p4, p5, p6, p7]) (((Builtin.Int.intBits (Builtin.bitXor 4 6) : Nat) : Int) - 1) 6)).set (4 : Int).toNat (lawSum ((List.take (4 : Int).toNat [p0, p1, p2, p3, p4, p5, p6, p7] ++ [0] ++ List.take (min (6 : Int).toNat [p0, p1, p2, p3, p4, p5, p6, p7].length - ((4 : Int) + 1).toNat) (List.drop ((4 : Int) + 1).toNat [p0, p1, p2, p3, p4, p5, p6, p7]) ++ [0] ++ List.drop ((6 : Int) + 1).toNat [p0, p1, p2, p3, p4, p5, p6, p7]).set (6 : Int).toNat (lawSum (List.take (4 : Int).toNat [p0, p1, p2, p3, p4, p5, p6, p7] ++ [0] ++ List.take (min (6 : Int).toNat [p0, p1, p2, p3, p4, p5, p6, p7].length - ((4 : Int) + 1).toNat) (List.drop ((4 : Int) + 1).toNat [p0, p1, p2, p3, p4, p5, p6, p7]) ++ [0] ++ List.drop ((6 : Int) + 1).toNat [p0, p1, p2, p3, p4, p5, p6, p7]) (((Builtin.Int.intBits (Builtin.bitXor 4 6) : Nat) : Int) - 1) 6)) (((Builtin.Int.intBits 4 : Nat) : Int) - 1) 4)) = [p0, p1, p2, p3, p4, p5, p6, p7] := by
  have e1 : ((Builtin.Int.intBits (Builtin.bitXor 4 6) : Nat) : Int) - 1 = 1 := by decide +kernel
  have e2 : ((Builtin.Int.intBits 4 : Nat) : Int) - 1 = 2 := by decide +kernel
  rw [e1, e2]
  show List.set (List.set [p0, p1, p2, p3, 0, p5, 0, p7] 6 (lawSum [p0, p1, p2, p3, 0, p5, 0, p7] 1 6)) 4 (lawSum (List.set [p0, p1, p2, p3, 0, p5, 0, p7] 6 (lawSum [p0, p1, p2, p3, 0, p5, 0, p7] 1 6)) 2 4) = [p0, p1, p2, p3, p4, p5, p6, p7]
  rw [ls_1_6, h.i16]
  show List.set [p0, p1, p2, p3, 0, p5, p6, p7] 4 (lawSum [p0, p1, p2, p3, 0, p5, p6, p7] 2 4) = [p0, p1, p2, p3, p4, p5, p6, p7]
  rw [ls_2_4, h.i24]
  rfl
theorem left_5_6 (h : CodeW p0 p1 p2 p3 p4 p5 p6 p7) : (((List.take (5 : Int).toNat [p0, p1, p2, p3, p4, p5, p6, p7] ++ [0] ++ List.take (min (6 : Int).toNat [p0, p1, p2, p3, p4, p5, p6, p7].length - ((5 : Int) + 1).toNat) (List.drop ((5 : Int) + 1).toNat [p0, p1, p2, p3, p4, p5, p6, p7]) ++ [0] ++ List.drop ((6 : Int) + 1).toNat [p0, p1, p2, p3, p4, p5, p6, p7]).set (6 : Int).toNat (lawSum (List.take (5 : Int).toNat [p0, p1, p2, p3, p4, p5, p6, p7] ++ [0] ++ List.take (min (6 : Int).toNat [p0, p1, p2, p3, p4, p5, p6, p7].length - ((5 : Int) + 1).toNat) (List.drop ((5 : Int) + 1).toNat [p0, p1, p2, p3, p4, p5, p6, p7]) ++ [0] ++ List.drop ((6 : Int) + 1).toNat [p0, p1, p2, p3, p4, p5, p6, p7]) (((Builtin.Int.intBits (Builtin.bitXor 5 6) : Nat) : Int) - 1) 6)).set (5 : Int).toNat (lawSum ((List.take (5 : Int).toNat [p0, p1, p2, p3, p4, p5, p6, p7] ++ [0] ++ List.take (min (6 : Int).toNat [p0, p1, p2, p3, p4, p5, p6, p7].length - ((5 : Int) + 1).toNat) (List.drop ((5 : Int) + 1).toNat [p0, p1, p2, p3, p4, p5, p6, p7]) ++ [0] ++ List.drop ((6 : Int) + 1).toNat [p0, p1, p2, p3, p4, p5, p6, p7]).set (6 : Int).toNat (lawSum (List.take (5 : Int).toNat [p0, p1, p2, p3, p4, p5, p6, p7] ++ [0] ++ List.take (min (6 : Int).toNat [p0, p1, p2, p3, p4, p5, p6, p7].length - ((5 : Int) + 1).toNat) (List.drop ((5 : Int) + 1).toNat [p0, p1, p2, p3, p4, p5, p6, p7]) ++ [0] ++ List.drop ((6 : Int) + 1).toNat [p0, p1, p2, p3, p4, p5, p6, p7]) (((Builtin.Int.intBits (Builtin.bitXor 5 6) : Nat) : Int) - 1) 6)) (((Builtin.Int.intBits 5 : Nat) : Int) - 1) 5)) = [p0, p1, p2, p3, p4, p5, p6, p7] := by
  have e1 : ((Builtin.Int.intBits (Builtin.bitXor 5 6) : Nat) : Int) - 1 = 1 := by decide +kernel
  have e2 : ((Builtin.Int.intBits 5 : Nat) : Int) - 1 = 2 := by decide +kernel
  rw [e1, e2]
  show List.set (List.set [p0, p1, p2, p3, p4, 0, 0, p7] 6 (lawSum [p0, p1, p2, p3, p4, 0, 0, p7] 1 6)) 5 (lawSum (List.set [p0, p1, p2, p3, p4, 0, 0, p7] 6 (lawSum [p0, p1, p2, p3, p4, 0, 0, p7] 1 6)) 2 5) = [p0, p1, p2, p3, p4, p5, p6, p7]
  rw [ls_1_6, h.i16]
  show List.set [p0, p1, p2, p3, p4, 0, p6, p7] 5 (lawSum [p0, p1, p2, p3, p4, 0, p6, p7] 2 5) = [p0, p1, p2, p3, p4, p5, p6, p7]
  rw [ls_2_5, h.i25]
  rfl
theorem left_1_7 (h : CodeW p0 p1 p2 p3 p4 p5 p6 p7) : (((List.take (1 : Int).toNat [p0, p1, p2, p3, p4, p5, p6, p7] ++ [0] ++ List.take (min (7 : Int).toNat [p0, p1, p2, p3, p4, p5, p6, p7].length - ((1 : Int) + 1).toNat) (List.drop ((1 : Int) + 1).toNat [p0, p1, p2, p3, p4, p5, p6, p7]) ++ [0] ++ List.drop ((7 : Int) + 1).toNat [p0, p1, p2, p3, p4, p5, p6, p7]).set (7 : Int).toNat (lawSum (List.take (1 : Int).toNat [p0, p1, p2, p3, p4, p5, p6, p7] ++ [0] ++ List.take (min (7 : Int).toNat [p0, p1, p2, p3, p4, p5, p6, p7].length - ((1 : Int) + 1).toNat) (List.drop ((1 : Int) + 1).toNat [p0, p1, p2, p3, p4, p5, p6, p7]) ++ [0] ++ List.drop ((7 : Int) + 1).toNat [p0, p1, p2, p3, p4, p5, p6, p7]) (((Builtin.Int.intBits (Builtin.bitXor 1 7) : Nat) : Int) - 1) 7)).set (1 : Int).toNat (lawSum ((List.take (1 : Int).toNat [p0, p1, p2, p3, p4, p5, p6, p7] ++ [0] ++ List.take (min (7 : Int).toNat [p0, p1, p2, p3, p4, p5, p6, p7].length - ((1 : Int) + 1).toNat) (List.drop ((1 : Int) + 1).toNat [p0, p1, p2, p3, p4, p5, p6, p7]) ++ [0] ++ List.drop ((7 : Int) + 1).toNat [p0, p1, p2, p3, p4, p5, p6, p7]).set (7 : Int).toNat (lawSum (List.take (1 : Int).toNat [p0, p1, p2, p3, p4, p5, p6, p7] ++ [0] ++ List.take (min (7 : Int).toNat [p0, p1, p2, p3, p4, p5, p6, p7].length - ((1 : Int) + 1).toNat) (List.drop ((1 : Int) + 1).toNat [p0, p1, p2, p3, p4, p5, p6, p7]) ++ [0] ++ List.drop ((7 : Int) + 1).toNat [p0, p1, p2, p3, p4, p5, p6, p7]) (((Builtin.Int.intBits (Builtin.bitXor 1 7) : Nat) : Int) - 1) 7)) (((Builtin.Int.intBits 1 : Nat) : Int) - 1) 1)) = [p0, p1, p2, p3, p4, p5, p6, p7] := by
  have e1 : ((Builtin.Int.intBits (Builtin.bitXor 1 7) : Nat) : Int) - 1 = 2 := by decide +kernel
  have e2 : ((Builtin.Int.intBits 1 : Nat) : Int) - 1 = 0 := by decide +kernel
  rw [e1, e2]
  show List.set (List.set [p0, 0, p2, p3, p4, p5, p6, 0] 7 (lawSum [p0, 0, p2, p3, p4, p5, p6, 0] 2 7)) 1 (lawSum (List.set [p0, 0, p2, p3, p4, p5, p6, 0] 7 (lawSum [p0, 0, p2, p3, p4, p5, p6, 0] 2 7)) 0 1) = [p0, p1, p2, p3, p4, p5, p6, p7]
  rw [ls_2_7, h.i27]
  show List.set [p0, 0, p2, p3, p4, p5, p6, p7] 1 (lawSum [p0, 0, p2, p3, p4, p5, p6, p7] 0 1) = [p0, p1, p2, p3, p4, p5, p6, p7]
  rw [ls_0_1, h.i01]
  rfl
theorem left_2_7 (h : CodeW p0 p1 p2 p3 p4 p5 p6 p7) : (((List.take (2 : Int).toNat [p0, p1, p2, p3, p4, p5, p6, p7] ++ [0] ++ List.take (min (7 : Int).toNat [p0, p1, p2, p3, p4, p5, p6, p7].length - ((2 : Int) + 1).toNat) (List.drop ((2 : Int) + 1).toNat [p0, p1, p2, p3, p4, p5, p6, p7]) ++ [0] ++ List.drop ((7 : Int) + 1).toNat [p0, p1, p2, p3, p4, p5, p6, p7]).set (7 : Int).toNat (lawSum (List.take (2 : Int).toNat [p0, p1, p2, p3, p4, p5, p6, p7] ++ [0] ++ List.take (min (7 : Int).toNat [p0, p1, p2, p3, p4, p5, p6, p7].length - ((2 : Int) + 1).toNat) (List.drop ((2 : Int) + 1).toNat [p0, p1, p2, p3, p4, p5, p6, p7]) ++ [0] ++ List.drop ((7 : Int) + 1).toNat [p0, p1, p2, p3, p4, p5, p6, p7]) (((Builtin.Int.intBits (Builtin.bitXor 2 7) : Nat) : Int) - 1) 7)).set (2 : Int).toNat (lawSum ((List.take (2 : Int).toNat [p0, p1, p2, p3, p4, p5, p6, p7] ++ [0] ++ List.take (min (7 : Int).toNat [p0, p1, p2, p3, p4, p5, p6, p7].length - ((2 : Int) + 1).toNat) (List.drop ((2 : Int) + 1).toNat [p0, p1, p2, p3, p4, p5, p6, p7]) ++ [0] ++ List.drop ((7 : Int) + 1).toNat [p0, p1, p2, p3, p4, p5, p6, p7]).set (7 : Int).toNat (lawSum (List.take (2 : Int).toNat [p0, p1, p2, p3, p4, p5, p6, p7] ++ [0] ++ List.take (min (7 : Int).toNat [p0, p1, p2, p3, p4, p5, p6, p7].length - ((2 : Int) + 1).toNat) (List.drop ((2 : Int) + 1).toNat [p0, p1, p2, p3, p4, p5, p6, p7]) ++ [0] ++ List.drop ((7 : Int) + 1).toNat [p0, p1, p2, p3, p4, p5, p6, p7]) (((Builtin.Int.intBits (Builtin.bitXor 2 7) : Nat) : Int) - 1) 7)) (((Builtin.Int.intBits 2 : Nat) : Int) - 1) 2)) = [p0, p1, p2, p3, p4, p5, p6, p7] := by
  have e1 : ((Builtin.Int.intBits (Builtin.bitXor 2 7) : Nat) : Int) - 1 = 2 := by decide +kernel
  have e2 : ((Builtin.Int.intBits 2 : Nat) : Int) - 1 = 1 := by decide +kernel
  rw [e1, e2]
  show List.set (List.set [p0, p1, 0, p3, p4, p5, p6, 0] 7 (lawSum [p0, p1, 0, p3, p4, p5, p6, 0] 2 7)) 2 (lawSum (List.set [p0, p1, 0, p3, p4, p5, p6, 0] 7 (lawSum [p0, p1, 0, p3, p4, p5, p6, 0] 2 7)) 1 2) = [p0, p1, p2, p3, p4, p5, p6, p7]
  rw [ls_2_7, h.i27]
  show List.set [p0, p1, 0, p3, p4, p5, p6, p7] 2 (lawSum [p0, p1, 0, p3, p4, p5, p6, p7] 1 2) = [p0, p1, p2, p3, p4, p5, p6, p7]
  rw [ls_1_2, h.i12]
  rfl
theorem left_3_7 (h : CodeW p0 p1 p2 p3 p4 p5 p6 p7) : (((List.take (3 : Int).toNat [p0, p1, p2, p3, p4, p5, p6, p7] ++ [0] ++ List.take (min (7 : Int).toNat [p0, p1, p2, p3, p4, p5, p6, p7].length - ((3 : Int) + 1).toNat) (List.drop ((3 : Int) + 1).toNat [p0, p1, p2, p3, p4, p5, p6, p7]) ++ [0] ++ List.drop ((7 : Int) + 1).toNat [p0, p1, p2, p3, p4, p5, p6, p7]).set (7 : Int).toNat (lawSum (List.take (3 : Int).toNat [p0, p1, p2, p3, p4, p5, p6, p7] ++ [0] ++ List.take (min (7 : Int).toNat [p0, p1, p2, p3, p4, p5, p6, p7].length - ((3 : Int) + 1).toNat) (List.drop ((3 : Int) + 1).toNat [p0, p1, p2, p3, p4, p5, p6, p7]) ++ [0] ++ List.drop ((7 : Int) + 1).toNat [p0, p1, p2, p3, p4, p5, p6, p7]) (((Builtin.Int.intBits (Builtin.bitXor 3 7) : Nat) : Int) - 1) 7)).set (3 : Int).toNat (lawSum ((List.take (3 : Int).toNat [p0, p1, p2, p3, p4, p5, p6, p7] ++ [0] ++ List.take (min (7 : Int).toNat [p0, p1, p2, p3, p4, p5, p6, p7].length - ((3 : Int) + 1).toNat) (List.drop ((3 : Int) + 1).toNat [p0, p1, p2, p3, p4, p5, p6, p7]) ++ [0] ++ List.drop ((7 : Int) + 1).toNat [p0, p1, p2, p3, p4, p5, p6, p7]).set (7 : Int).toNat (lawSum (List.take (3 : Int).toNat [p0, p1, p2, p3, p4, p5, p6, p7] ++ [0] ++ List.take (min (7 : Int).toNat [p0, p1, p2, p3, p4, p5, p6, p7].length - ((3 : Int) + 1).toNat) (List.drop ((3 : Int) + 1).toNat [p0, p1, p2, p3, p4, p5, p6, p7]) ++ [0] ++ List.drop ((7 : Int) + 1).toNat [p0, p1, p2, p3, p4, p5, p6, p7]) (((Builtin.Int.intBits (Builtin.bitXor 3 7) : Nat) : Int) - 1) 7)) (((Builtin.Int.intBits 3 : Nat) : Int) - 1) 3)) = [p0, p1, p2, p3, p4, p5, p6, p7] := by
  have e1 : ((Builtin.Int.intBits (Builtin.bitXor 3 7) : Nat) : Int) - 1 = 2 := by decide +kernel
  have e2 : ((Builtin.Int.intBits 3 : Nat) : Int) - 1 = 1 := by decide +kernel
  rw [e1, e2]
  show List.set (List.set [p0, p1, p2, 0, p4, p5, p6, 0] 7 (lawSum [p0, p1, p2, 0, p4, p5, p6, 0] 2 7)) 3 (lawSum (List.set [p0, p1, p2, 0, p4, p5, p6, 0] 7 (lawSum [p0, p1, p2, 0, p4, p5, p6, 0] 2 7)) 1 3) = [p0, p1, p2, p3, p4, p5, p6, p7]
  rw [ls_2_7, h.i27]
  show List.set [p0, p1, p2, 0, p4, p5, p6, p7] 3 (lawSum [p0, p1, p2, 0, p4, p5, p6, p7] 1 3) = [p0, p1, p2, p3, p4, p5, p6, p7]
  rw [ls_1_3, h.i13]
  rfl
theorem left_4_7 (h : CodeW p0 p1 p2 p3 p4 p5 p6 p7) : (((List.take (4 : Int).toNat [p0, p1, p2, p3, p4, p5, p6, p7] ++ [0] ++ List.take (min (7 : Int).toNat [p0, p1, p2, p3, p4, p5, p6, p7].length - ((4 : Int) + 1).toNat) (List.drop ((4 : Int) + 1).toNat [p0, p1, p2, p3, p4, p5, p6, p7]) ++ [0] ++ List.drop ((7 : Int) + 1).toNat [p0, p1, p2, p3, p4, p5, p6, p7]).set (7 : Int).toNat (lawSum (List.take (4 : Int).toNat [p0, p1, p2, p3, p4, p5, p6, p7] ++ [0] ++ List.take (min (7 : Int).toNat [p0, p1, p2, p3, p4, p5, p6, p7].length - ((4 : Int) + 1).toNat) (List.drop ((4 : Int) + 1).toNat [p0, p1, p2, p3, p4, p5, p6, p7]) ++ [0] ++ List.drop ((7 : Int) + 1).toNat [p0, p1, p2, p3, p4, p5, p6, p7]) (((Builtin.Int.intBits (Builtin.bitXor 4 7) : Nat) : Int) - 1) 7)).set (4 : Int).toNat (lawSum ((List.take (4 : Int).toNat [p0, p1, p2, p3, p4, p5, p6, p7] ++ [0] ++ List.take (min (7 : Int).toNat [p0, p1, p2, p3, p4, p5, p6, p7].length - ((4 : Int) + 1).toNat) (List.drop ((4 : Int) + 1).toNat [p0, p1, p2, p3, p4, p5, p6, p7]) ++ [0] ++ List.drop ((7 : Int) + 1).toNat [p0, p1, p2, p3, p4, p5, p6, p7]).set (7 : Int).toNat (lawSum (List.take (4 : Int).toNat [p0, p1, p2, p3, p4, p5, p6, p7] ++ [0] ++ List.take (min (7 : Int).toNat [p0, p1, p2, p3, p4, p5, p6, p7].length - ((4 : Int) + 1).toNat) (List.drop ((4 : Int) + 1).toNat [p0, p1, p2, p3, p4, p5, p6, p7]) ++ [0] ++ List.drop ((7 : Int) + 1).toNat [p0, p1, p2, p3, p4, p5, p6, p7]) (((Builtin.Int.intBits (Builtin.bitXor 4 7) : Nat) : Int) - 1) 7)) (((Builtin.Int.intBits 4 : Nat) : Int) - 1) 4)) = [p0, p1, p2, p3, p4, p5, p6, p7] := by
  have e1 : ((Builtin.Int.intBits (Builtin.bitXor 4 7) : Nat) : Int) - 1 = 1 := by decide +kernel
  have e2 : ((Builtin.Int.intBits 4 : Nat) : Int) - 1 = 2 := by decide +kernel
  rw [e1, e2]
  show List.set (List.set [p0, p1, p2, p3, 0, p5, p6, 0] 7 (lawSum [p0, p1, p2, p3, 0, p5, p6, 0] 1 7)) 4 (lawSum (List.set [p0, p1, p2, p3, 0, p5, p6, 0] 7 (lawSum [p0, p1, p2, p3, 0, p5, p6, 0] 1 7)) 2 4) = [p0, p1, p2, p3, p4, p5, p6, p7]
  rw [ls_1_7, h.i17]
  show List.set [p0, p1, p2, p3, 0, p5, p6, p7] 4 (lawSum [p0, p1, p2, p3, 0, p5, p6, p7] 2 4) = [p0, p1, p2, p3, p4, p5, p6, p7]
  rw [ls_2_4, h.i24]
  rfl
theorem left_5_7 (h : CodeW p0 p1 p2 p3 p4 p5 p6 p7) : (((List.take (5 : Int).toNat [p0, p1, p2, p3, p4, p5, p6, p7] ++ [0] ++ List.take (min (7 : Int).toNat [p0, p1, p2, p3, p4, p5, p6, p7].length - ((5 : Int) + 1).toNat) (List.drop ((5 : Int) + 1).toNat [p0, p1, p2, p3, p4, p5, p6, p7]) ++ [0] ++ List.drop ((7 : Int) + 1).toNat [p0, p1, p2, p3, p4, p5, p6, p7]).set (7 : Int).toNat (lawSum (List.take (5 : Int).toNat [p0, p1, p2, p3, p4, p5, p6, p7] ++ [0] ++ List.take (min (7 : Int).toNat [p0, p1, p2, p3, p4, p5, p6, p7].length - ((5 : Int) + 1).toNat) (List.drop ((5 : Int) + 1).toNat [p0, p1, p2, p3, p4, p5, p6, p7]) ++ [0] ++ List.drop ((7 : Int) + 1).toNat [p0, p1, p2, p3, p4, p5, p6, p7]) (((Builtin.Int.intBits (Builtin.bitXor 5 7) : Nat) : Int) - 1) 7)).set (5 : Int).toNat (lawSum ((List.take (5 : Int).toNat [p0, p1, p2, p3, p4, p5, p6, p7] ++ [0] ++ List.take (min (7 : Int).toNat [p0, p1, p2, p3, p4, p5, p6, p7].length - ((5 : Int) + 1).toNat) (List.drop ((5 : Int) + 1).toNat [p0, p1, p2, p3, p4, p5, p6, p7]) ++ [0] ++ List.drop ((7 : Int) + 1).toNat [p0, p1, p2, p3, p4, p5, p6, p7]).set (7 : Int).toNat (lawSum (List.take (5 : Int).toNat [p0, p1, p2, p3, p4, p5, p6, p7] ++ [0] ++ List.take (min (7 : Int).toNat [p0, p1, p2, p3, p4, p5, p6, p7].length - ((5 : Int) + 1).toNat) (List.drop ((5 : Int) + 1).toNat [p0, p1, p2, p3, p4, p5, p6, p7]) ++ [0] ++ List.drop ((7 : Int) + 1).toNat [p0, p1, p2, p3, p4, p5, p6, p7]) (((Builtin.Int.intBits (Builtin.bitXor 5 7) : Nat) : Int) - 1) 7)) (((Builtin.Int.intBits 5 : Nat) : Int) - 1) 5)) = [p0, p1, p2, p3, p4, p5, p6, p7] := by
  have e1 : ((Builtin.Int.intBits (Builtin.bitXor 5 7) : Nat) : Int) - 1 = 1 := by decide +kernel
  have e2 : ((Builtin.Int.intBits 5 : Nat) : Int) - 1 = 2 := by decide +kernel
  rw [e1, e2]
  show List.set (List.set [p0, p1, p2, p3, p4, 0, p6, 0] 7 (lawSum [p0, p1, p2, p3, p4, 0, p6, 0] 1 7)) 5 (lawSum (List.set [p0, p1, p2, p3, p4, 0, p6, 0] 7 (lawSum [p0, p1, p2, p3, p4, 0, p6, 0] 1 7)) 2 5) = [p0, p1, p2, p3, p4, p5, p6, p7]
  rw [ls_1_7, h.i17]
  show List.set [p0, p1, p2, p3, p4, 0, p6, p7] 5 (lawSum [p0, p1, p2, p3, p4, 0, p6, p7] 2 5) = [p0, p1, p2, p3, p4, p5, p6, p7]
  rw [ls_2_5, h.i25]
  rfl
theorem left_6_7 (h : CodeW p0 p1 p2 p3 p4 p5 p6 p7) : (((List.take (6 : Int).toNat [p0, p1, p2, p3, p4, p5, p6, p7] ++ [0] ++ List.take (min (7 : Int).toNat [p0, p1, p2, p3, p4, p5, p6, p7].length - ((6 : Int) + 1).toNat) (List.drop ((6 : Int) + 1).toNat [p0, p1, p2, p3, p4, p5, p6, p7]) ++ [0] ++ List.drop ((7 : Int) + 1).toNat [p0, p1, p2, p3, p4, p5, p6, p7]).set (7 : Int).toNat (lawSum (List.take (6 : Int).toNat [p0, p1, p2, p3, p4, p5, p6, p7] ++ [0] ++ List.take (min (7 : Int).toNat [p0, p1, p2, p3, p4, p5, p6, p7].length - ((6 : Int) + 1).toNat) (List.drop ((6 : Int) + 1).toNat [p0, p1, p2, p3, p4, p5, p6, p7]) ++ [0] ++ List.drop ((7 : Int) + 1).toNat [p0, p1, p2, p3, p4, p5, p6, p7]) (((Builtin.Int.intBits (Builtin.bitXor 6 7) : Nat) : Int) - 1) 7)).set (6 : Int).toNat (lawSum ((List.take (6 : Int).toNat [p0, p1, p2, p3, p4, p5, p6, p7] ++ [0] ++ List.take (min (7 : Int).toNat [p0, p1, p2, p3, p4, p5, p6, p7].length - ((6 : Int) + 1).toNat) (List.drop ((6 : Int) + 1).toNat [p0, p1, p2, p3, p4, p5, p6, p7]) ++ [0] ++ List.drop ((7 : Int) + 1).toNat [p0, p1, p2, p3, p4, p5, p6, p7]).set (7 : Int).toNat (lawSum (List.take (6 : Int).toNat [p0, p1, p2, p3, p4, p5, p6, p7] ++ [0] ++ List.take (min (7 : Int).toNat [p0, p1, p2, p3, p4, p5, p6, p7].length - ((6 : Int) + 1).toNat) (List.drop ((6 : Int) + 1).toNat [p0, p1, p2, p3, p4, p5, p6, p7]) ++ [0] ++ List.drop ((7 : Int) + 1).toNat [p0, p1, p2, p3, p4, p5, p6, p7]) (((Builtin.Int.intBits (Builtin.bitXor 6 7) : Nat) : Int) - 1) 7)) (((Builtin.Int.intBits 6 : Nat) : Int) - 1) 6)) = [p0, p1, p2, p3, p4, p5, p6, p7] := by
  have e1 : ((Builtin.Int.intBits (Builtin.bitXor 6 7) : Nat) : Int) - 1 = 0 := by decide +kernel
  have e2 : ((Builtin.Int.intBits 6 : Nat) : Int) - 1 = 2 := by decide +kernel
  rw [e1, e2]
  show List.set (List.set [p0, p1, p2, p3, p4, p5, 0, 0] 7 (lawSum [p0, p1, p2, p3, p4, p5, 0, 0] 0 7)) 6 (lawSum (List.set [p0, p1, p2, p3, p4, p5, 0, 0] 7 (lawSum [p0, p1, p2, p3, p4, p5, 0, 0] 0 7)) 2 6) = [p0, p1, p2, p3, p4, p5, p6, p7]
  rw [ls_0_7, h.i07]
  show List.set [p0, p1, p2, p3, p4, p5, 0, p7] 6 (lawSum [p0, p1, p2, p3, p4, p5, 0, p7] 2 6) = [p0, p1, p2, p3, p4, p5, p6, p7]
  rw [ls_2_6, h.i26]
  rfl
theorem left_pure {k : Int} (hp : ∀ x ∈ [p0, p1, p2, p3, p4, p5, p6, p7], 0 ≤ x ∧ x < 1048576) (hc : CodeOk p0 p1 p2 p3 p4 p5 p6 p7) (k1 : 1 ≤ k) (k7 : k ≤ 7) : ∀ j : Int, 1 ≤ j → j < k → (((List.take j.toNat [p0, p1, p2, p3, p4, p5, p6, p7] ++ [0] ++ List.take (min k.toNat [p0, p1, p2, p3, p4, p5, p6, p7].length - (j + 1).toNat) (List.drop (j + 1).toNat [p0, p1, p2, p3, p4, p5, p6, p7]) ++ [0] ++ List.drop (k + 1).toNat [p0, p1, p2, p3, p4, p5, p6, p7]).set k.toNat (lawSum (List.take j.toNat [p0, p1, p2, p3, p4, p5, p6, p7] ++ [0] ++ List.take (min k.toNat [p0, p1, p2, p3, p4, p5, p6, p7].length - (j + 1).toNat) (List.drop (j + 1).toNat [p0, p1, p2, p3, p4, p5, p6, p7]) ++ [0] ++ List.drop (k + 1).toNat [p0, p1, p2, p3, p4, p5, p6, p7]) (((Builtin.Int.intBits (Builtin.bitXor j k) : Nat) : Int) - 1) k)).set j.toNat (lawSum ((List.take j.toNat [p0, p1, p2, p3, p4, p5, p6, p7] ++ [0] ++ List.take (min k.toNat [p0, p1, p2, p3, p4, p5, p6, p7].length - (j + 1).toNat) (List.drop (j + 1).toNat [p0, p1, p2, p3, p4, p5, p6, p7]) ++ [0] ++ List.drop (k + 1).toNat [p0, p1, p2, p3, p4, p5, p6, p7]).set k.toNat (lawSum (List.take j.toNat [p0, p1, p2, p3, p4, p5, p6, p7] ++ [0] ++ List.take (min k.toNat [p0, p1, p2, p3, p4, p5, p6, p7].length - (j + 1).toNat) (List.drop (j + 1).toNat [p0, p1, p2, p3, p4, p5, p6, p7]) ++ [0] ++ List.drop (k + 1).toNat [p0, p1, p2, p3, p4, p5, p6, p7]) (((Builtin.Int.intBits (Builtin.bitXor j k) : Nat) : Int) - 1) k)) (((Builtin.Int.intBits j : Nat) : Int) - 1) j)) = [p0, p1, p2, p3, p4, p5, p6, p7] := by
  have h := code_here hp hc
  intro j j1 jk
  rcases k_cases3 j1 (by omega) with rfl | rfl | rfl | rfl | rfl | rfl | rfl
  · rcases k_cases3 k1 k7 with rfl | rfl | rfl | rfl | rfl | rfl | rfl
    · exact absurd jk (by decide)
    · exact left_1_2 h
    · exact left_1_3 h
    · exact left_1_4 h
    · exact left_1_5 h
    · exact left_1_6 h
    · exact left_1_7 h
  · rcases k_cases3 k1 k7 with rfl | rfl | rfl | rfl | rfl | rfl | rfl
    · exact absurd jk (by decide)
    · exact absurd jk (by decide)
    · exact left_2_3 h
    · exact left_2_4 h
    · exact left_2_5 h
    · exact left_2_6 h
    · exact left_2_7 h
  · rcases k_cases3 k1 k7 with rfl | rfl | rfl | rfl | rfl | rfl | rfl
    · exact absurd jk (by decide)
    · exact absurd jk (by decide)
    · exact absurd jk (by decide)
    · exact left_3_4 h
    · exact left_3_5 h
    · exact left_3_6 h
    · exact left_3_7 h
  · rcases k_cases3 k1 k7 with rfl | rfl | rfl | rfl | rfl | rfl | rfl
    · exact absurd jk (by decide)
    · exact absurd jk (by decide)
    · exact absurd jk (by decide)
    · exact absurd jk (by decide)
    · exact left_4_5 h
    · exact left_4_6 h
    · exact left_4_7 h
  · rcases k_cases3 k1 k7 with rfl | rfl | rfl | rfl | rfl | rfl | rfl
    · exact absurd jk (by decide)
    · exact absurd jk (by decide)
    · exact absurd jk (by decide)
    · exact absurd jk (by decide)
    · exact absurd jk (by decide)
    · exact left_5_6 h
    · exact left_5_7 h
  · rcases k_cases3 k1 k7 with rfl | rfl | rfl | rfl | rfl | rfl | rfl
    · exact absurd jk (by decide)
    · exact absurd jk (by decide)
    · exact absurd jk (by decide)
    · exact absurd jk (by decide)
    · exact absurd jk (by decide)
    · exact absurd jk (by decide)
    · exact left_6_7 h
  · rcases k_cases3 k1 k7 with rfl | rfl | rfl | rfl | rfl | rfl | rfl
    · exact absurd jk (by decide)
    · exact absurd jk (by decide)
    · exact absurd jk (by decide)
    · exact absurd jk (by decide)
    · exact absurd jk (by decide)
    · exact absurd jk (by decide)
    · exact absurd jk (by decide)
end
end Mine
end

section
open PySem PySem.W PyProof.Rows
open Builtin Builtin.Str StrLaws
namespace Mine
/-- a reply as a list of signs -/
theorem whole_got {mk : Str} {k x : Int} (h : MarkOk mk) (k1 : 1 ≤ k) (k7 : k ≤ 7) (h0 : 0 ≤ x) (h1 : x < 2097152) : ∃ c K D, mk = ⟨#[c]⟩ ∧ SepOk c ∧ (49 ≤ K ∧ K ≤ 55) ∧ Dig x D ∧ wholeT mk k x = ofL (wholeL c K D) := by
  obtain ⟨c, hm, hs⟩ := h
  obtain ⟨K, hk, hK⟩ := k_text k1 k7
  obtain ⟨D, hd⟩ := dig_of h0 h1
  exact ⟨c, K, D, hm, hs, hK, hd, whole_list hm hk hd.is⟩
section
variable {c K : Nat} {D : List Nat}
theorem no_sep (hs : SepOk c) (hK : 49 ≤ K ∧ K ≤ 55) (hd : ∀ v ∈ D, 48 ≤ v ∧ v ≤ 57) : c ∉ [K] ∧ c ∉ D ∧ c ∉ D ++ [120] := by
  have hc : c < 48 ∨ 57 < c := by unfold SepOk at hs; omega
  have hcD : c ∉ D := fun h => by have := hd c h; omega
  refine ⟨fun h => ?_, hcD, fun h => ?_⟩
  · have := List.mem_singleton.mp h; omega
  · rcases List.mem_append.mp h with h | h
    · exact hcD h
    · have := List.mem_singleton.mp h
      unfold SepOk at hs; omega
theorem no41 (hs : SepOk c) (hK : 49 ≤ K ∧ K ≤ 55) (hd : ∀ v ∈ D, 48 ≤ v ∧ v ≤ 57) : 41 ∉ bodyL c K D := notin_body (by unfold SepOk at hs; omega) (by decide) hK hd
theorem outW (hs : SepOk c) (hK : 49 ≤ K ∧ K ≤ 55) (hd : ∀ v ∈ D, 48 ≤ v ∧ v ≤ 57) : outOf (ofL (wholeL c K D)) = match _root_.PySem.intText? (ofL D) with | some n => .port n | none => .value := by
  obtain ⟨n1, n2, n3⟩ := no_sep hs hK hd
  have h := out_body (m := c) (M := K :: c :: c :: D) (post := []) (P := [[], [K], [], D, []]) (no41 hs hK hd) (by simp [joinL]) (List.cons_ne_nil _ _) (by
    intro p hp
    simp only [List.mem_cons, List.not_mem_nil, or_false] at hp
    rcases hp with rfl | rfl | rfl | rfl | rfl
    · simp
    · exact n1
    · simp
    · exact n2
    · simp)
  refine Eq.trans h ?_
  rw [if_neg (by simp)]
  have e : (([[], [K], [], D, []] : List (List Nat)).map ofL).getD 3 Str.empty = ofL D := rfl
  rw [e]
  all_goals (cases _root_.PySem.intText? (ofL D) <;> rfl)
theorem out1 (hs : SepOk c) (hK : 49 ≤ K ∧ K ≤ 55) (hd : ∀ v ∈ D, 48 ≤ v ∧ v ≤ 57) : outOf (ofL (50 :: 50 :: 57 :: 32 :: 40 :: bodyL c K D)) = .proto := by
  have f1 := fr_find (a0 := 50) (a1 := 50) (a2 := 57) (M := bodyL c K D) (by decide) (by decide) (by decide)
  have f2 := fr_find3_no (a0 := 50) (a1 := 50) (a2 := 57) (no41 hs hK hd)
  have e1 : (4 : Int) + 1 = 5 := rfl
  refine out_close ?_ ?_ ?_
  · have := fr_head (a0 := 50) (a1 := 50) (a2 := 57) (M := 32 :: 40 :: bodyL c K D)
    rw [this, t229]; exact eq_text
  · rw [f1]; decide
  · rw [f1, e1, f2]; decide
theorem out2 (hs : SepOk c) (hK : 49 ≤ K ∧ K ≤ 55) (hd : ∀ v ∈ D, 48 ≤ v ∧ v ≤ 57) : outOf (ofL (50 :: 50 :: 57 :: 32 :: 40 :: (c :: bodyL c K D ++ [41]))) = .proto := by
  obtain ⟨n1, n2, n3⟩ := no_sep hs hK hd
  have hn : 41 ∉ c :: (c :: K :: c :: c :: D ++ [c]) := by
    intro h
    rcases List.mem_cons.mp h with h | h
    · unfold SepOk at hs; omega
    · exact no41 hs hK hd h
  have h := out_body (m := c) (M := c :: K :: c :: c :: D) (post := []) (P := [[], [], [K], [], D, []]) hn (by simp [joinL]) (List.cons_ne_nil _ _) (by
    intro p hp
    simp only [List.mem_cons, List.not_mem_nil, or_false] at hp
    rcases hp with rfl | rfl | rfl | rfl | rfl | rfl
    · simp
    · simp
    · exact n1
    · simp
    · exact n2
    · simp)
  refine Eq.trans h ?_
  rw [if_pos (by simp)]
theorem out3 (hs : SepOk c) (hK : 49 ≤ K ∧ K ≤ 55) (hd : ∀ v ∈ D, 48 ≤ v ∧ v ≤ 57) (hne : D ≠ []) : outOf (ofL (50 :: 50 :: 57 :: 32 :: 40 :: (c :: K :: c :: c :: (D ++ [120, c]) ++ [41]))) = .value := by
  obtain ⟨n1, n2, n3⟩ := no_sep hs hK hd
  have hn : 41 ∉ c :: (K :: c :: c :: (D ++ [120]) ++ [c]) := by
    have hc : 41 ≠ c := by unfold SepOk at hs; omega
    intro h
    rcases List.mem_cons.mp h with h | h
    · exact hc h
    rcases List.mem_append.mp h with h | h
    · rcases List.mem_cons.mp h with h | h
      · omega
      rcases List.mem_cons.mp h with h | h
      · exact hc h
      rcases List.mem_cons.mp h with h | h
      · exact hc h
      rcases List.mem_append.mp h with h | h
      · have := hd 41 h; omega
      · exact absurd (List.mem_singleton.mp h) (by decide)
    · exact hc (List.mem_singleton.mp h)
  have h := out_body (m := c) (M := K :: c :: c :: (D ++ [120])) (post := []) (P := [[], [K], [], D ++ [120], []]) hn (by simp [joinL]) (List.cons_ne_nil _ _) (by
    intro p hp
    simp only [List.mem_cons, List.not_mem_nil, or_false] at hp
    rcases hp with rfl | rfl | rfl | rfl | rfl
    · simp
    · exact n1
    · simp
    · exact n3
    · simp)
  have e0 : (50 :: 50 :: 57 :: 32 :: 40 :: (c :: K :: c :: c :: (D ++ [120, c]) ++ [41])) = 50 :: 50 :: 57 :: 32 :: 40 :: (c :: (K :: c :: c :: (D ++ [120]) ++ [c]) ++ 41 :: []) := by simp
  rw [e0]
  refine Eq.trans h ?_
  rw [if_neg (by simp)]
  have e : (([[], [K], [], D ++ [120], []] : List (List Nat)).map ofL).getD 3 Str.empty = ofL (D ++ [120]) := rfl
  rw [e, int_x hd hne]
theorem out4 (hs : SepOk c) (hK : 49 ≤ K ∧ K ≤ 55) (hd : ∀ v ∈ D, 48 ≤ v ∧ v ≤ 57) : outOf (ofL (50 :: 50 :: 57 :: 32 :: (bodyL c K D ++ [41]))) = .proto := by
  have hb0 : 40 ∉ bodyL c K D := notin_body (by unfold SepOk at hs; omega) (by decide) hK hd
  refine out_open ?_ ?_
  · have := fr_head (a0 := 50) (a1 := 50) (a2 := 57) (M := 32 :: (bodyL c K D ++ [41]))
    rw [this, t229]; exact eq_text
  · rw [f_none]
    · decide
    · intro h
      rcases List.mem_cons.mp h with h | h
      · omega
      rcases List.mem_cons.mp h with h | h
      · omega
      rcases List.mem_cons.mp h with h | h
      · omega
      rcases List.mem_cons.mp h with h | h
      · omega
      rcases List.mem_append.mp h with h | h
      · exact hb0 h
      · exact absurd (List.mem_singleton.mp h) (by decide)
theorem out5 (hs : SepOk c) (hK : 49 ≤ K ∧ K ≤ 55) (hd : ∀ v ∈ D, 48 ≤ v ∧ v ≤ 57) : outOf (ofL (50 :: 50 :: 57 :: 32 :: 40 :: (bodyL c K D ++ [120, 41]))) = .proto := by
  have h := out_ends (m := c) (z := 120) (M := K :: c :: c :: (D ++ [c])) (post := []) (no41 hs hK hd) (by decide) (by unfold SepOk at hs; omega)
  have e0 : bodyL c K D ++ [120, 41] = c :: (K :: c :: c :: (D ++ [c]) ++ [120]) ++ 41 :: [] := by simp
  rw [e0]
  exact h
end
section
variable {mk : Str} {k x kd : Int} (h : MarkOk mk) (k1 : 1 ≤ k) (k7 : k ≤ 7) (h0 : 0 ≤ x) (h1 : x < 2097152)
include h k1 k7 h0 h1
theorem whole_len : (wholeT mk k x).length ≤ 90 := by
  obtain ⟨c, K, D, _, _, _, hd, e⟩ := whole_got h k1 k7 h0 h1
  rw [e, ofL_len]
  have := hd.len
  simp only [List.length_cons, List.length_append, List.length_nil]
  omega
theorem whole_A : TextA (wholeT mk k x) := by
  obtain ⟨c, K, D, _, hs, hK, hd, e⟩ := whole_got h k1 k7 h0 h1
  rw [e]
  exact A_both (M := bodyL c K D) (post := []) (by decide) (by decide) (by decide) (no41 hs hK hd.dig) (by simp)
theorem whole_out : outOf (wholeT mk k x) = .port x := by
  obtain ⟨c, K, D, _, hs, hK, hd, e⟩ := whole_got h k1 k7 h0 h1
  rw [e, outW hs hK hd.dig, ← hd.is, KIN.num_reads h0 (by have : (10 : Int) ^ 10 = 10000000000 := by decide
                                                          omega)]
theorem lost_len : (lostF (wholeT mk k x) mk kd).length ≤ 100 := by
  obtain ⟨c, K, D, rfl, hs, hK, hd, e⟩ := whole_got h k1 k7 h0 h1
  rw [e, lost_list hs hK hd.dig, ofL_len]
  exact Nat.le_trans (len_lost hd.len kd) (by decide)
theorem lost_A : TextA (lostF (wholeT mk k x) mk kd) := by
  obtain ⟨c, K, D, rfl, hs, hK, hd, e⟩ := whole_got h k1 k7 h0 h1
  rw [e, lost_list hs hK hd.dig]
  exact lostA hs hK hd.dig kd
theorem lost_P : ∀ y ∈ partsOf (lostF (wholeT mk k x) mk kd), ((numSeenOf y).length == (numTextOf y).length) = true ∧ (reprText y).length ≤ 1000 := by
  obtain ⟨c, K, D, rfl, hs, hK, hd, e⟩ := whole_got h k1 k7 h0 h1
  rw [e, lost_list hs hK hd.dig]
  exact parts_ok (ascii_lost hs hK hd.dig kd) (Nat.le_trans (len_lost hd.len kd) (by decide))
theorem lost_kd (d0 : 0 ≤ kd) (d1 : kd < 7) :
    (kd = 0 ∧ outOf (lostF (wholeT mk k x) mk kd) = .reply) ∨ (kd = 1 ∧ outOf (lostF (wholeT mk k x) mk kd) = .proto) ∨ (kd = 2 ∧ outOf (lostF (wholeT mk k x) mk kd) = .proto) ∨ (kd = 3 ∧ outOf (lostF (wholeT mk k x) mk kd) = .value) ∨ (kd = 4 ∧ outOf (lostF (wholeT mk k x) mk kd) = .proto) ∨ (kd = 5 ∧ outOf (lostF (wholeT mk k x) mk kd) = .proto) ∨ (kd = 6 ∧ outOf (lostF (wholeT mk k x) mk kd) = .reply) := by
  obtain ⟨c, K, D, rfl, hs, hK, hd, e⟩ := whole_got h k1 k7 h0 h1
  have hk : kd = 0 ∨ kd = 1 ∨ kd = 2 ∨ kd = 3 ∨ kd = 4 ∨ kd = 5 ∨ kd = 6 := by omega
  rw [e, lost_list hs hK hd.dig]
  rcases hk with rfl | rfl | rfl | rfl | rfl | rfl | rfl
  · exact .inl ⟨rfl, out_227⟩
  · exact .inr (.inl ⟨rfl, out1 hs hK hd.dig⟩)
  · exact .inr (.inr (.inl ⟨rfl, out2 hs hK hd.dig⟩))
  · exact .inr (.inr (.inr (.inl ⟨rfl, out3 hs hK hd.dig hd.ne⟩)))
  · exact .inr (.inr (.inr (.inr (.inl ⟨rfl, out4 hs hK hd.dig⟩))))
  · exact .inr (.inr (.inr (.inr (.inr (.inl ⟨rfl, out5 hs hK hd.dig⟩)))))
  · exact .inr (.inr (.inr (.inr (.inr (.inr ⟨rfl, out_227⟩)))))
end
end Mine
end

section
open PySem PySem.W PyProof.Rows PySem.Calls
namespace Mine
theorem log_small {n : Int} (h0 : 0 ≤ n) (h1 : n < 2097152) : n.natAbs.log2 < 1920 := by
  by_cases h : n.natAbs = 0
  · rw [h]; decide
  · refine (Nat.log2_lt h).mpr ?_
    have e : n.natAbs < 2 ^ 21 := by
      have : (2 : Nat) ^ 21 = 2097152 := by decide
      omega
    exact Nat.lt_of_lt_of_le e (Nat.pow_le_pow_right (by decide) (by decide))
theorem mirror_len {n : Int} (h0 : 0 ≤ n) (h1 : n < 2097152) : (PyData.shown (.tuple [.str (Str.ofString "mirror"), .int n])).length ≤ sizeLine := by
  have hl : (toString n).length ≤ 7 + 1 := int_text_length_le10 (by decide) (by omega)
  simp only [PyData.shown_tuple, PyData.shown_int, PyData.shown_str, PyData.shownAll_nil, PyData.shownAll_cons, Str.join, List.length_cons, List.length_nil, Nat.reduceAdd, Nat.reduceBEq, Bool.false_eq_true, if_false, Str.length_append, PySem.ofString_length]
  have hm : (reprText (Str.ofString "mirror")).length = 8 := by decide +kernel
  rw [hm, sizeLine_eq]
  have e1 : (Str.ofString "(").length = 1 := by decide +kernel
  have e2 : (Str.ofString ")").length = 1 := by decide +kernel
  have e3 : (Str.ofString ", ").length = 2 := by decide +kernel
  simp only [PySem.ofString_length] at e1 e2 e3
  omega
theorem mirror_str {prog : Program} {w : World} {A : Around} {E : Value → Shared → Prop} {s : Shared} {h₀ : Heap} {L : Addr} {m : Str → Option Value} {news : List (Addr × Obj)} {Q : Value → Shared → Prop} {lr : Addr} {t t' : Tok} {k : Nat} {n : Int} (F : Fr h₀ L s.heap m) (N : News h₀ L s.heap news)
    (hm : (lr, ({ cls := .type "tuple", data := .seq #[.str (Str.ofString "mirror") t, .int n t'] k } : Obj)) ∈ news) (h0 : 0 ≤ n) (h1 : n < 2097152) (hg : A.guards = some []) (hu : A.units + 10 < cLine)
    (hQ : ∀ h' u tk, Fr h₀ L h' m → News h₀ L h' news → Q (.str (PyData.shown (.tuple [.str (Str.ofString "mirror"), .int n])) u) { s with heap := h', toks := tk }) : wpAny (model prog w) A (call (.type "str") [.ref lr]) Q E s := by
  refine str_via (d := .tuple [.str (Str.ofString "mirror"), .int n]) ?_ F N ?_ rfl rfl hg ?_ hQ (mirror_len h0 h1)
  · intro h hk hn
    refine ⟨[], .tuple (hn _ hm) rfl rfl ?_⟩
    exact .cons (as := []) (bs := []) (.str _ _) (.cons (as := []) (bs := []) (.int _ _) .nil)
  · simp only [PyData.showable, PyData.showableAll, Bool.true_and, Bool.and_true, decide_eq_true_eq]
    exact log_small h0 h1
  · have e : (PyData.tuple [.str (Str.ofString "mirror"), .int n]).depth ≤ 5 := by simp [PyData.depth, PyData.depthAll]
    omega
end Mine
end

section
open PySem PySem.W PyProof.Rows PySem.Calls
namespace Mine
theorem rg_le_o0 {k : Int} (h : k < 0 + (((20 : Int) - 0).toNat : Int)) : k ≤ 1000000 := by omega
theorem rg_lt_o0 {k : Int} (h : k < 0 + (((20 : Int) - 0).toNat : Int)) : k < 30 := by omega
theorem rg_le3_o0 {k : Int} (h : k < 0 + (((3 : Int) - 0).toNat : Int)) : k ≤ 1000000 := by omega
theorem rg_lt3_o0 {k : Int} (h : k < 0 + (((3 : Int) - 0).toNat : Int)) : k < 30 := by omega
set_option maxRecDepth 100000 in
set_option maxHeartbeats 8000000 in
set_option rowWalk.seconds 0 in
theorem o0 (w : World) (loose mean mg mb) (h₀ : Heap) (L fa : Addr) (cd : Value) (m : Str → Option Value) (s : Shared) (Q : Flow → Shared → Prop) (E : Value → Shared → Prop)
    (cn cm cp ck cw : Obj) (oi : Addr) (oo : Obj) (ln lp : Addr) (mk : Str) (tm tk : Tok) (k : Int) (wv : Option Value)
    (p0 p1 p2 p3 p4 p5 p6 p7 : Int) (t0 t1 t2 t3 t4 t5 t6 t7 : Tok) (n0 n1 n2 n3 n4 n5 : Int) (u0 u1 u2 u3 u4 u5 : Tok) (e1 e2 : Nat)
    (B : Below callerA h₀ [] h₀) (XK : (Mine.hd.heap_39 w.params).In h₀) (T : Top Mine.hd.view_39 loose mean mg mb h₀)
    (dw : cw.data = .cell wv) (dk : ck.data = .cell (some (.int k tk))) (dp : cp.data = .cell (some (.ref lp))) (dm : cm.data = .cell (some (.str mk tm))) (dn : cn.data = .cell (some (.ref ln)))
    (k1 : 1 ≤ k) (k7 : k ≤ 7) (hp : ∀ x ∈ [p0, p1, p2, p3, p4, p5, p6, p7], 0 ≤ x ∧ x < 1048576)
    (F : Fr h₀ L s.heap m) (N : News h₀ L s.heap ((L + 1 + 1 + 1 + 1 + 1, cw) :: (L + 1 + 1 + 1 + 1, ck) :: (L + 1 + 1 + 1, cp) :: (L + 1 + 1, cm) :: (L + 1, cn) :: (lp, listOf #[.int p0 t0, .int p1 t1, .int p2 t2, .int p3 t3, .int p4 t4, .int p5 t5, .int p6 t6, .int p7 t7] e1) :: (ln, listOf #[.int n0 u0, .int n1 u1, .int n2 u2, .int n3 u3, .int n4 u4, .int n5 u5] e2) :: [(oi, oo)]))
    (hret : ∀ (h' : Heap) (tk' : Nat), Fr h₀ L h' m → News h₀ L h' ((L + 1 + 1 + 1 + 1 + 1, cw) :: (L + 1 + 1 + 1 + 1, ck) :: (L + 1 + 1 + 1, cp) :: (L + 1 + 1, cm) :: (L + 1, cn) :: (lp, listOf #[.int p0 t0, .int p1 t1, .int p2 t2, .int p3 t3, .int p4 t4, .int p5 t5, .int p6 t6, .int p7 t7] e1) :: (ln, listOf #[.int n0 u0, .int n1 u1, .int n2 u2, .int n3 u3, .int n4 u4, .int n5 u5] e2) :: [(oi, oo)]) → Q .next { s with heap := h', toks := tk' }) :
    wpAny (model PySem.Challenge.rw_rl0004_01.row.prog w) (lawA L fa cd) (exec (outerAt 0) (lawEnv L fa cd)) Q E s := by
  revert XK; k_fill; intro XK
  conv in (outerAt 0) => whnf
  dsimp only [lawA, lawEnv]
  have hsc : lawScope = ?sc := by conv => lhs; whnf
  rw [hsc]
  k_with_none
  (k_with "CompEnd" => ((with_reducible rename News _ _ _ (List.cons (_, _) (List.cons (_, _) (List.cons (_, LCg.lst _) _))) => N9); refine LCg.CompEnd.intro (by assumption) N9 _ (fun _ hp => hp) (by first | assumption | (simp only [LCg.Off3, and_true]; assumption)) (by first | lcg_src | assumption) ?_))
  (k_with "binaryOp Pow int int" => (with_reducible refine pow_int_small ?kb1 ?kb2 ?kb3 ?_; (case kb1 => assumption); (case kb2 => first | exact rg_le_o0 (by assumption) | exact rg_le3_o0 (by assumption)); (case kb3 => decide)))
  (k_with "binaryOp FloorDiv int int" => (with_reducible refine fd_pow ?kb1 ?kb2 ?_; (case kb1 => assumption); (case kb2 => first | exact rg_lt_o0 (by assumption) | exact rg_lt3_o0 (by assumption))))
  (try k_fold)
  k_steps
  · exact absurd (by assumption) (single_pure hp k1 k7)
  · exact hret _ _ (by assumption) (kst_newsOf (by assumption) (by kst_inAny))
end Mine
end

section
open PySem PySem.W PyProof.Rows PySem.Calls
namespace Mine
theorem rg_le_o1 {k : Int} (h : k < 0 + (((20 : Int) - 0).toNat : Int)) : k ≤ 1000000 := by omega
theorem rg_lt_o1 {k : Int} (h : k < 0 + (((20 : Int) - 0).toNat : Int)) : k < 30 := by omega
theorem rg_le3_o1 {k : Int} (h : k < 0 + (((3 : Int) - 0).toNat : Int)) : k ≤ 1000000 := by omega
theorem rg_lt3_o1 {k : Int} (h : k < 0 + (((3 : Int) - 0).toNat : Int)) : k < 30 := by omega
set_option maxRecDepth 100000 in
set_option maxHeartbeats 8000000 in
set_option rowWalk.seconds 0 in
theorem o1 (w : World) (loose mean mg mb) (h₀ : Heap) (L fa : Addr) (cd : Value) (m : Str → Option Value) (s : Shared) (Q : Flow → Shared → Prop) (E : Value → Shared → Prop)
    (cn cm cp ck cw : Obj) (oi : Addr) (oo : Obj) (ln lp : Addr) (mk : Str) (tm tk : Tok) (k : Int) (wv : Option Value)
    (p0 p1 p2 p3 p4 p5 p6 p7 : Int) (t0 t1 t2 t3 t4 t5 t6 t7 : Tok) (n0 n1 n2 n3 n4 n5 : Int) (u0 u1 u2 u3 u4 u5 : Tok) (e1 e2 : Nat)
    (B : Below callerA h₀ [] h₀) (XK : (Mine.hd.heap_39 w.params).In h₀) (T : Top Mine.hd.view_39 loose mean mg mb h₀)
    (dw : cw.data = .cell wv) (dk : ck.data = .cell (some (.int k tk))) (dp : cp.data = .cell (some (.ref lp))) (dm : cm.data = .cell (some (.str mk tm))) (dn : cn.data = .cell (some (.ref ln)))
    (k1 : 1 ≤ k) (k7 : k ≤ 7) (hp : ∀ x ∈ [p0, p1, p2, p3, p4, p5, p6, p7], 0 ≤ x ∧ x < 1048576)
    (F : Fr h₀ L s.heap m) (N : News h₀ L s.heap ((L + 1 + 1 + 1 + 1 + 1, cw) :: (L + 1 + 1 + 1 + 1, ck) :: (L + 1 + 1 + 1, cp) :: (L + 1 + 1, cm) :: (L + 1, cn) :: (lp, listOf #[.int p0 t0, .int p1 t1, .int p2 t2, .int p3 t3, .int p4 t4, .int p5 t5, .int p6 t6, .int p7 t7] e1) :: (ln, listOf #[.int n0 u0, .int n1 u1, .int n2 u2, .int n3 u3, .int n4 u4, .int n5 u5] e2) :: [(oi, oo)]))
    (hret : ∀ (h' : Heap) (tk' : Nat), Fr h₀ L h' m → News h₀ L h' ((L + 1 + 1 + 1 + 1 + 1, cw) :: (L + 1 + 1 + 1 + 1, ck) :: (L + 1 + 1 + 1, cp) :: (L + 1 + 1, cm) :: (L + 1, cn) :: (lp, listOf #[.int p0 t0, .int p1 t1, .int p2 t2, .int p3 t3, .int p4 t4, .int p5 t5, .int p6 t6, .int p7 t7] e1) :: (ln, listOf #[.int n0 u0, .int n1 u1, .int n2 u2, .int n3 u3, .int n4 u4, .int n5 u5] e2) :: [(oi, oo)]) → Q .next { s with heap := h', toks := tk' }) :
    wpAny (model PySem.Challenge.rw_rl0004_01.row.prog w) (lawA L fa cd) (exec (outerAt 1) (lawEnv L fa cd)) Q E s := by
  revert XK; k_fill; intro XK
  conv in (outerAt 1) => whnf
  dsimp only [lawA, lawEnv]
  have hsc : lawScope = ?sc := by conv => lhs; whnf
  rw [hsc]
  k_with_none
  (k_with "CompEnd" => ((with_reducible rename News _ _ _ (List.cons (_, _) (List.cons (_, _) (List.cons (_, LCg.lst _) _))) => N9); refine LCg.CompEnd.intro (by assumption) N9 _ (fun _ hp => hp) (by first | assumption | (simp only [LCg.Off3, and_true]; assumption)) (by first | lcg_src | assumption) ?_))
  (k_with "binaryOp Pow int int" => (with_reducible refine pow_int_small ?kb1 ?kb2 ?kb3 ?_; (case kb1 => assumption); (case kb2 => first | exact rg_le_o1 (by assumption) | exact rg_le3_o1 (by assumption)); (case kb3 => decide)))
  (k_with "binaryOp FloorDiv int int" => (with_reducible refine fd_pow ?kb1 ?kb2 ?_; (case kb1 => assumption); (case kb2 => first | exact rg_lt_o1 (by assumption) | exact rg_lt3_o1 (by assumption))))
  (try k_fold)
  k_steps
  · exact absurd (high_pure hp k1 k7) (by assumption)
  · exact hret _ _ (by assumption) (kst_newsOf (by assumption) (by kst_inAny))
end Mine
end

section
open PySem PySem.W PyProof.Rows PySem.Calls
namespace Mine
theorem off_ne_o2 {D a : Addr} {o : Obj} : ∀ {l : List (Addr × Obj)}, LCg.Off1 D l → (a, o) ∈ l → D ≠ a
  | _ :: _, h, hm => by
    cases hm with
    | head => exact Ne.symm h.1
    | tail _ hm => exact off_ne_o2 h.2 hm
set_option maxRecDepth 100000 in
set_option maxHeartbeats 8000000 in
set_option rowWalk.seconds 0 in
theorem o2 (w : World) (loose mean mg mb) (h₀ : Heap) (L fa : Addr) (cd : Value) (m : Str → Option Value) (s : Shared) (Q : Flow → Shared → Prop) (E : Value → Shared → Prop)
    (cn cm cp ck cw : Obj) (oi : Addr) (oo : Obj) (ln lp : Addr) (mk : Str) (tm tk : Tok) (k : Int) (wv : Option Value)
    (p0 p1 p2 p3 p4 p5 p6 p7 : Int) (t0 t1 t2 t3 t4 t5 t6 t7 : Tok) (n0 n1 n2 n3 n4 n5 : Int) (u0 u1 u2 u3 u4 u5 : Tok) (e1 e2 : Nat)
    (B : Below callerA h₀ [] h₀) (XK : (Mine.hd.heap_39 w.params).In h₀) (T : Top Mine.hd.view_39 loose mean mg mb h₀)
    (dw : cw.data = .cell wv) (dk : ck.data = .cell (some (.int k tk))) (dp : cp.data = .cell (some (.ref lp))) (dm : cm.data = .cell (some (.str mk tm))) (dn : cn.data = .cell (some (.ref ln)))
    (k1 : 1 ≤ k) (k7 : k ≤ 7) (hmk : mk.length ≤ 1) (hm2 : (Txt.mul mk 2).length ≤ 2) (hpx : ∀ x ∈ [[p0, p1, p2, p3, p4, p5, p6, p7].getD k.toNat 0, (Builtin.bitXor ([p0, p1, p2, p3, p4, p5, p6, p7].getD k.toNat 0) (n5 + 1))], 0 ≤ x ∧ x < 2097152) (hlp : lp ≠ L + 1 + 1 + 1 + 1 + 1)
    (F : Fr h₀ L s.heap m) (N : News h₀ L s.heap ((L + 1 + 1 + 1 + 1 + 1, cw) :: (L + 1 + 1 + 1 + 1, ck) :: (L + 1 + 1 + 1, cp) :: (L + 1 + 1, cm) :: (L + 1, cn) :: (lp, listOf #[.int p0 t0, .int p1 t1, .int p2 t2, .int p3 t3, .int p4 t4, .int p5 t5, .int p6 t6, .int p7 t7] e1) :: (ln, listOf #[.int n0 u0, .int n1 u1, .int n2 u2, .int n3 u3, .int n4 u4, .int n5 u5] e2) :: [(oi, oo)]))
    (hret : ∀ (h' : Heap) (tk' : Nat) (lw : Addr) (tw0 tw1 : Tok) (e3 : Nat), lw ≠ L + 1 + 1 + 1 + 1 + 1 → Fr h₀ L h' (fun y => if y = Str.ofString "whole" then some (.ref lw) else m y) → News h₀ L h' ((L + 1 + 1 + 1 + 1 + 1, cw) :: (L + 1 + 1 + 1 + 1, ck) :: (L + 1 + 1 + 1, cp) :: (L + 1 + 1, cm) :: (L + 1, cn) :: (lp, listOf #[.int p0 t0, .int p1 t1, .int p2 t2, .int p3 t3, .int p4 t4, .int p5 t5, .int p6 t6, .int p7 t7] e1) :: (ln, listOf #[.int n0 u0, .int n1 u1, .int n2 u2, .int n3 u3, .int n4 u4, .int n5 u5] e2) :: (lw, listOf #[.str (wholeT mk k ([p0, p1, p2, p3, p4, p5, p6, p7].getD k.toNat 0)) tw0, .str (wholeT mk k (Builtin.bitXor ([p0, p1, p2, p3, p4, p5, p6, p7].getD k.toNat 0) (n5 + 1))) tw1] e3) :: [(oi, oo)]) → Q .next { s with heap := h', toks := tk' }) :
    wpAny (model PySem.Challenge.rw_rl0004_01.row.prog w) (lawA L fa cd) (exec (outerAt 2) (lawEnv L fa cd)) Q E s := by
  revert XK; k_fill; intro XK
  conv in (outerAt 2) => whnf
  dsimp only [lawA, lawEnv]
  have hsc : lawScope = ?sc := by conv => lhs; whnf
  rw [hsc]
  k_with_none
  (k_with "call type:str" => (k_here; (rename (_ ∈ List.cons _ _) => hk9); (rename (∀ x, x ∈ List.cons _ (List.cons _ List.nil) → 0 ≤ x ∧ x < 2097152) => hb9); (obtain ⟨hb1, hb2⟩ := hb9 _ hk9); clear hk9; refine P.str_of_int (shown (N := 2 ^ 1920) (by omega) (by omega) (Int.le_refl _)) ?_))
  (k_with "CompSrc" => (k_here; k_dflt (refine LCg.CompSrc.ledger (by rfl) (by k_asm) (by k_asm) (by k_mem) (by kcf_size) ?_; intro g'; (refine' kct_list _ (by first | assumption | l_ints) (fun k' t' I' oI' C' oC' D' m' ys' h' tk' E' hk' hC' hx' F' N' off' ne' hMark' => ?_) ?_); kcf_last)))
  (k_with "CompEnd" => ((with_reducible rename LCg.Off3 _ _ _ _ => off9); (with_reducible rename News _ _ _ (List.cons (_, _) (List.cons (_, _) (List.cons (_, LCg.lst _) _))) => N9); refine LCg.CompEnd.intro (by assumption) N9 _ (fun _ hp => hp) off9 (by lcg_src) ?_))
  (k_with "FinA" => ((unfold LCg.FinA); intro D' h' tk' F' N' o1'; (try simp only [List.nil_append, List.cons_append] at N'); (try dsimp only)))
  (try k_fold)
  k_dflt (refine LCg.Assign_ListComp_U (F₀ := by k_asm) (by rfl) (by with_unfolding_all rfl) (by with_unfolding_all rfl) (by decide) (by rfl) (by decide) (by rfl) (by rfl) (by rfl) ?_)
  k_steps
  (rename CarriedAll _ _ => hc9)
  obtain ⟨a0, a1, rfl⟩ := whole_ys hc9 (by (try dsimp only); refine ⟨⟨?_, ?_⟩, (hpx _ (.head _)).1, (hpx _ (.head _)).2, ⟨?_, ?_⟩, ⟨?_, ?_⟩, ⟨?_, ?_⟩, ⟨?_, ?_⟩, ?_, ?_⟩ <;> first | exact Nat.le_of_eq (Str.length_append ..) | exact Nat.le_of_eq (Str.length_append ..).symm) (by (try dsimp only); refine ⟨⟨?_, ?_⟩, (hpx _ (.tail _ (.head _))).1, (hpx _ (.tail _ (.head _))).2, ⟨?_, ?_⟩, ⟨?_, ?_⟩, ⟨?_, ?_⟩, ⟨?_, ?_⟩, ?_, ?_⟩ <;> first | exact Nat.le_of_eq (Str.length_append ..) | exact Nat.le_of_eq (Str.length_append ..).symm)
  exact hret _ _ _ _ _ _ (off_ne_o2 (by assumption) (by k_mem)) (by assumption) (kst_newsOf (by assumption) (by kst_inAny))
end Mine
end

section
open PySem PySem.W PyProof.Rows PySem.Calls
namespace Mine
set_option maxRecDepth 100000 in
set_option maxHeartbeats 8000000 in
set_option rowWalk.seconds 0 in
theorem o3 (w : World) (loose mean mg mb) (h₀ : Heap) (L fa : Addr) (cd : Value) (m : Str → Option Value) (s : Shared) (Q : Flow → Shared → Prop) (E : Value → Shared → Prop)
    (cn cm cp ck cw : Obj) (oi : Addr) (oo : Obj) (ln lp : Addr) (mk : Str) (tm tk : Tok) (k : Int) (wv : Option Value)
    (p0 p1 p2 p3 p4 p5 p6 p7 : Int) (t0 t1 t2 t3 t4 t5 t6 t7 : Tok) (n0 n1 n2 n3 n4 n5 : Int) (u0 u1 u2 u3 u4 u5 : Tok) (e1 e2 : Nat) (lw : Addr) (W0 W1 : Str) (tw0 tw1 : Tok) (e3 : Nat)
    (B : Below callerA h₀ [] h₀) (XK : (Mine.hd.heap_39 w.params).In h₀) (T : Top Mine.hd.view_39 loose mean mg mb h₀)
    (dw : cw.data = .cell wv) (dk : ck.data = .cell (some (.int k tk))) (dp : cp.data = .cell (some (.ref lp))) (dm : cm.data = .cell (some (.str mk tm))) (dn : cn.data = .cell (some (.ref ln)))
    (k1 : 1 ≤ k) (k7 : k ≤ 7) (hn4 : 0 ≤ n4 ∧ n4 < 1000000) (hn5 : 0 ≤ n5 ∧ n5 < 1000000)
    (F : Fr h₀ L s.heap m) (N : News h₀ L s.heap ((L + 1 + 1 + 1 + 1 + 1, cw) :: (L + 1 + 1 + 1 + 1, ck) :: (L + 1 + 1 + 1, cp) :: (L + 1 + 1, cm) :: (L + 1, cn) :: (lp, listOf #[.int p0 t0, .int p1 t1, .int p2 t2, .int p3 t3, .int p4 t4, .int p5 t5, .int p6 t6, .int p7 t7] e1) :: (ln, listOf #[.int n0 u0, .int n1 u1, .int n2 u2, .int n3 u3, .int n4 u4, .int n5 u5] e2) :: (lw, listOf #[.str W0 tw0, .str W1 tw1] e3) :: [(oi, oo)]))
    (hret : ∀ (h' : Heap) (tk' : Nat) (tkd : Tok), Fr h₀ L h' (fun y => if y = Str.ofString "kind" then some (.int ((n4 + k).fmod 7) tkd) else m y) → News h₀ L h' ((L + 1 + 1 + 1 + 1 + 1, cw) :: (L + 1 + 1 + 1 + 1, ck) :: (L + 1 + 1 + 1, cp) :: (L + 1 + 1, cm) :: (L + 1, cn) :: (lp, listOf #[.int p0 t0, .int p1 t1, .int p2 t2, .int p3 t3, .int p4 t4, .int p5 t5, .int p6 t6, .int p7 t7] e1) :: (ln, listOf #[.int n0 u0, .int n1 u1, .int n2 u2, .int n3 u3, .int n4 u4, .int n5 u5] e2) :: (lw, listOf #[.str W0 tw0, .str W1 tw1] e3) :: [(oi, oo)]) → Q .next { s with heap := h', toks := tk' }) :
    wpAny (model PySem.Challenge.rw_rl0004_01.row.prog w) (lawA L fa cd) (exec (outerAt 3) (lawEnv L fa cd)) Q E s := by
  revert XK; k_fill; intro XK
  conv in (outerAt 3) => whnf
  dsimp only [lawA, lawEnv]
  have hsc : lawScope = ?sc := by conv => lhs; whnf
  rw [hsc]
  k_with_none
  (try k_fold)
  k_steps
  exact hret _ _ _ (by assumption) (kst_newsOf (by assumption) (by kst_inAny))
end Mine
end

section
open PySem PySem.W PyProof.Rows PySem.Calls
namespace Mine
theorem no_if_o4 {prog : Program} {w : World} {A : Around} {a : List Stmt} {env : Env} {Q : Flow → Shared → Prop} {E : Value → Shared → Prop} {s : Shared} (h : Q .next s) : wpC (model prog w) A (execs (if false = true then a else []) env) Q E s := wpC_of (wpAny_execs_nil h)
set_option maxRecDepth 100000 in
set_option maxHeartbeats 8000000 in
set_option rowWalk.seconds 0 in
theorem o4 (w : World) (loose mean mg mb) (h₀ : Heap) (L fa : Addr) (cd : Value) (m : Str → Option Value) (s : Shared) (Q : Flow → Shared → Prop) (E : Value → Shared → Prop)
    (cn cm cp ck cw : Obj) (oi : Addr) (oo : Obj) (ln lp : Addr) (mk : Str) (tm tk : Tok) (k : Int) (wv : Option Value)
    (p0 p1 p2 p3 p4 p5 p6 p7 : Int) (t0 t1 t2 t3 t4 t5 t6 t7 : Tok) (n0 n1 n2 n3 n4 n5 : Int) (u0 u1 u2 u3 u4 u5 : Tok) (e1 e2 : Nat) (lw : Addr) (W0 W1 : Str) (tw0 tw1 : Tok) (e3 : Nat) (X : Str) (kd : Int) (tkd : Tok)
    (B : Below callerA h₀ [] h₀) (XK : (Mine.hd.heap_39 w.params).In h₀) (T : Top Mine.hd.view_39 loose mean mg mb h₀)
    (dw : cw.data = .cell wv) (dk : ck.data = .cell (some (.int k tk))) (dp : cp.data = .cell (some (.ref lp))) (dm : cm.data = .cell (some (.str mk tm))) (dn : cn.data = .cell (some (.ref ln)))
    (k1 : 1 ≤ k) (k7 : k ≤ 7) (hX : lostF W0 mk kd = X) (hW0 : W0.length ≤ 100) (hmk : mk.length ≤ 1) (hL : X.length ≤ 100) (hA : (Txt.find X (Str.ofString "(") < 0 ∨ (Txt.find X (Str.ofString "(") = 4 ∧ (Txt.find3 X (Str.ofString ")") (Txt.find X (Str.ofString "(") + 1) < 0 ∨ (6 ≤ Txt.find3 X (Str.ofString ")") (Txt.find X (Str.ofString "(") + 1) ∧ Txt.find3 X (Str.ofString ")") (Txt.find X (Str.ofString "(") + 1) < X.length))))) (hP : ∀ y ∈ partsOf X, ((numSeenOf y).length == (numTextOf y).length) = true ∧ (reprText y).length ≤ 1000) (hkd : (kd = 0 ∧ outOf X = .reply) ∨ (kd = 1 ∧ outOf X = .proto) ∨ (kd = 2 ∧ outOf X = .proto) ∨ (kd = 3 ∧ outOf X = .value) ∨ (kd = 4 ∧ outOf X = .proto) ∨ (kd = 5 ∧ outOf X = .proto) ∨ (kd = 6 ∧ outOf X = .reply))
    (F : Fr h₀ L s.heap (fun y => if y = Str.ofString "kind" then some (.int kd tkd) else if y = Str.ofString "whole" then some (.ref lw) else m y)) (N : News h₀ L s.heap ((L + 1 + 1 + 1 + 1 + 1, cw) :: (L + 1 + 1 + 1 + 1, ck) :: (L + 1 + 1 + 1, cp) :: (L + 1 + 1, cm) :: (L + 1, cn) :: (lp, listOf #[.int p0 t0, .int p1 t1, .int p2 t2, .int p3 t3, .int p4 t4, .int p5 t5, .int p6 t6, .int p7 t7] e1) :: (ln, listOf #[.int n0 u0, .int n1 u1, .int n2 u2, .int n3 u3, .int n4 u4, .int n5 u5] e2) :: (lw, listOf #[.str W0 tw0, .str W1 tw1] e3) :: [(oi, oo)]))
    (hret : ∀ (h' : Heap) (tk' : Nat), Fr h₀ L h' (fun y => if y = Str.ofString "kind" then some (.int kd tkd) else if y = Str.ofString "whole" then some (.ref lw) else m y) → News h₀ L h' ((L + 1 + 1 + 1 + 1 + 1, cw) :: (L + 1 + 1 + 1 + 1, ck) :: (L + 1 + 1 + 1, cp) :: (L + 1 + 1, cm) :: (L + 1, cn) :: (lp, listOf #[.int p0 t0, .int p1 t1, .int p2 t2, .int p3 t3, .int p4 t4, .int p5 t5, .int p6 t6, .int p7 t7] e1) :: (ln, listOf #[.int n0 u0, .int n1 u1, .int n2 u2, .int n3 u3, .int n4 u4, .int n5 u5] e2) :: (lw, listOf #[.str W0 tw0, .str W1 tw1] e3) :: [(oi, oo)]) → Q .next { s with heap := h', toks := tk' }) :
    wpC (model PySem.Challenge.rw_rl0004_01.row.prog w) (lawA L fa cd) (exec (outerAt 4) (lawEnv L fa cd)) Q E s := by
  revert XK; k_fill; intro XK
  conv in (outerAt 4) => whnf
  dsimp only [lawA, lawEnv]
  have hsc : lawScope = ?sc := by conv => lhs; whnf
  rw [hsc]
  k_with_none
  (k_with "call ref" => (k_here; (with_reducible show wpAny _ _ (call (Value.ref 91) [Value.str _ _, Value.str _ _, Value.int _ _]) _ _ _); k_dflt (refine' lost_use ?r1 ?r2 ?r3 ?k1 ?k2 ?k3 ?k4 ?k5 ?kK ?_; (case r1 => assumption); (case r2 => assumption); (case r3 => assumption); (case k1 => k_asm); (case k2 => k_asm); (case k3 => k_asm); (case k4 => k_asm); (case k5 => k_asm); (case kK => exact rfl)); intro t9 h9 tk9 F9 N9; (try dsimp only); (try k_fold)))
  (try k_fold)
  refine ifC (compareC (callNameC ?_))
  k_steps
  refine callWithC_K (K := Mine.hd.heap_39 w.params) (by k_dflt k_is) ?_
  k_steps
  refine told_ok w loose mean mg mb _ _ _ ?_ ?_ _ _ _ _ _ _ _ _ _ _ _ _ (by k_asm) (by k_asm) (by k_asm) (by k_asm) (by k_asm) (by k_asm) (by k_asm) rfl rfl (by decide) (by decide) ?_ ?_
  · exact hL
  · exact hA
  · exact hP
  · intro x9 o9 h9 tk9 hT F9 N9 l9
    clear hL hA hP
    rcases hkd with ⟨rfl, ho⟩ | ⟨rfl, ho⟩ | ⟨rfl, ho⟩ | ⟨rfl, ho⟩ | ⟨rfl, ho⟩ | ⟨rfl, ho⟩ | ⟨rfl, ho⟩
    all_goals (rw [ho] at hT; obtain ⟨t8, rfl⟩ := hT; (try dsimp only); (try k_fold))
    all_goals k_steps
    all_goals exact no_if_o4 (hret _ _ (by assumption) (kst_newsOf (by assumption) (by kst_inAny)))
end Mine
end

section
open PySem PySem.W PyProof.Rows PySem.Calls
namespace Mine
theorem end_one_o5 {h₀ : Heap} {L I C D x : Addr} {m : Str → Option Value} {s₁ : Shared} {oI oC oD ox : Obj} {S : List (Addr × Obj) → Prop} {rest : Value → List (Addr × Obj) → Prop} {y : Value} {h' : Heap} {tk : Nat} {all : List (Addr × Obj)}
    (F : Fr h₀ L h' m) (N : News h₀ L h' ((x, ox) :: (I, oI) :: (C, oC) :: (D, oD) :: all)) (off : LCg.Off3 I C D all) (lt : ∀ p ∈ (I, oI) :: (C, oC) :: (D, oD) :: all, p.1 < x) (hS : S ((x, ox) :: all)) (r : rest y ((x, ox) :: all)) :
    LCg.CompEnd h₀ L m s₁ I oI C oC D oD S rest y { s₁ with heap := h', toks := tk } :=
  LCg.CompEnd.intro F N _ (fun p hp => by
    simp only [List.mem_cons] at hp ⊢
    rcases hp with h | h | h | h | h
    · exact .inr (.inl h)
    · exact .inr (.inr (.inl h))
    · exact .inr (.inr (.inr (.inl h)))
    · exact .inl h
    · exact .inr (.inr (.inr (.inr h)))) (show LCg.Off3 I C D ((x, ox) :: all) from And.intro ⟨Nat.ne_of_gt (lt _ (.head _)), Nat.ne_of_gt (lt _ (.tail _ (.head _))), Nat.ne_of_gt (lt _ (.tail _ (.tail _ (.head _))))⟩ off) hS r
theorem ne_lt_o5 {l : List (Addr × Obj)} {x a : Addr} {o : Obj} (h : ∀ p ∈ l, p.1 < x) (hq : (a, o) ∈ l) : x ≠ a := Nat.ne_of_gt (h _ hq)
theorem off_ne_o5 {D a : Addr} {o : Obj} : ∀ {l : List (Addr × Obj)}, LCg.Off1 D l → (a, o) ∈ l → D ≠ a
  | _ :: _, h, hm => by
    cases hm with
    | head => exact Ne.symm h.1
    | tail _ hm => exact off_ne_o5 h.2 hm
set_option maxRecDepth 100000 in
set_option maxHeartbeats 8000000 in
set_option rowWalk.seconds 0 in
theorem o5 (w : World) (loose mean mg mb) (h₀ : Heap) (L fa : Addr) (cd : Value) (m : Str → Option Value) (s : Shared) (Q : Flow → Shared → Prop) (E : Value → Shared → Prop)
    (cn cm cp ck cw : Obj) (oi : Addr) (oo : Obj) (ln lp : Addr) (mk : Str) (tm tk : Tok) (k : Int) (wv : Option Value)
    (p0 p1 p2 p3 p4 p5 p6 p7 : Int) (t0 t1 t2 t3 t4 t5 t6 t7 : Tok) (n0 n1 n2 n3 n4 n5 : Int) (u0 u1 u2 u3 u4 u5 : Tok) (e1 e2 : Nat) (lw : Addr) (W0 W1 : Str) (tw0 tw1 : Tok) (e3 : Nat) (kd : Int) (tkd : Tok) (X0 X1 : Int)
    (B : Below callerA h₀ [] h₀) (XK : (Mine.hd.heap_39 w.params).In h₀) (T : Top Mine.hd.view_39 loose mean mg mb h₀)
    (dw : cw.data = .cell wv) (dk : ck.data = .cell (some (.int k tk))) (dp : cp.data = .cell (some (.ref lp))) (dm : cm.data = .cell (some (.str mk tm))) (dn : cn.data = .cell (some (.ref ln)))
    (k1 : 1 ≤ k) (k7 : k ≤ 7) (hne : ∀ p ∈ (((L + 1 + 1 + 1 + 1, ck) :: (L + 1 + 1 + 1, cp) :: (L + 1 + 1, cm) :: (L + 1, cn) :: (lp, listOf #[.int p0 t0, .int p1 t1, .int p2 t2, .int p3 t3, .int p4 t4, .int p5 t5, .int p6 t6, .int p7 t7] e1) :: (ln, listOf #[.int n0 u0, .int n1 u1, .int n2 u2, .int n3 u3, .int n4 u4, .int n5 u5] e2) :: (lw, listOf #[.str W0 tw0, .str W1 tw1] e3) :: [(oi, oo)]) : List (Addr × Obj)), p.1 ≠ L + 1 + 1 + 1 + 1 + 1) (hW0 : W0.length ≤ 100) (hW1 : W1.length ≤ 100) (hO0 : outOf W0 = .port X0) (hO1 : outOf W1 = .port X1) (hA0 : (Txt.find W0 (Str.ofString "(") < 0 ∨ (Txt.find W0 (Str.ofString "(") = 4 ∧ (Txt.find3 W0 (Str.ofString ")") (Txt.find W0 (Str.ofString "(") + 1) < 0 ∨ (6 ≤ Txt.find3 W0 (Str.ofString ")") (Txt.find W0 (Str.ofString "(") + 1) ∧ Txt.find3 W0 (Str.ofString ")") (Txt.find W0 (Str.ofString "(") + 1) < W0.length))))) (hA1 : (Txt.find W1 (Str.ofString "(") < 0 ∨ (Txt.find W1 (Str.ofString "(") = 4 ∧ (Txt.find3 W1 (Str.ofString ")") (Txt.find W1 (Str.ofString "(") + 1) < 0 ∨ (6 ≤ Txt.find3 W1 (Str.ofString ")") (Txt.find W1 (Str.ofString "(") + 1) ∧ Txt.find3 W1 (Str.ofString ")") (Txt.find W1 (Str.ofString "(") + 1) < W1.length)))))
    (F : Fr h₀ L s.heap (fun y => if y = Str.ofString "kind" then some (.int kd tkd) else if y = Str.ofString "whole" then some (.ref lw) else m y)) (N : News h₀ L s.heap ((L + 1 + 1 + 1 + 1 + 1, cw) :: (L + 1 + 1 + 1 + 1, ck) :: (L + 1 + 1 + 1, cp) :: (L + 1 + 1, cm) :: (L + 1, cn) :: (lp, listOf #[.int p0 t0, .int p1 t1, .int p2 t2, .int p3 t3, .int p4 t4, .int p5 t5, .int p6 t6, .int p7 t7] e1) :: (ln, listOf #[.int n0 u0, .int n1 u1, .int n2 u2, .int n3 u3, .int n4 u4, .int n5 u5] e2) :: (lw, listOf #[.str W0 tw0, .str W1 tw1] e3) :: [(oi, oo)]))
    (hret : ∀ (h' : Heap) (tk' : Nat) (cw' : Obj) (lr lx : Addr) (tr0 tr1 tx0 tx1 : Tok) (kr kx : Nat), cw'.data = .cell (some (.ref lx)) → Fr h₀ L h' (fun y => if y = Str.ofString "right" then some (.ref lr) else if y = Str.ofString "kind" then some (.int kd tkd) else if y = Str.ofString "whole" then some (.ref lw) else m y) → News h₀ L h' ((L + 1 + 1 + 1 + 1 + 1, cw') :: (L + 1 + 1 + 1 + 1, ck) :: (L + 1 + 1 + 1, cp) :: (L + 1 + 1, cm) :: (L + 1, cn) :: (lp, listOf #[.int p0 t0, .int p1 t1, .int p2 t2, .int p3 t3, .int p4 t4, .int p5 t5, .int p6 t6, .int p7 t7] e1) :: (ln, listOf #[.int n0 u0, .int n1 u1, .int n2 u2, .int n3 u3, .int n4 u4, .int n5 u5] e2) :: (lr, { cls := .type "tuple", data := .seq #[.str (Str.ofString "mirror") tr0, .int X0 tr1] kr }) :: (lx, { cls := .type "tuple", data := .seq #[.str (Str.ofString "mirror") tx0, .int X1 tx1] kx }) :: [(oi, oo)]) → Q .next { s with heap := h', toks := tk' }) :
    wpAny (model PySem.Challenge.rw_rl0004_01.row.prog w) (lawA L fa cd) (exec (outerAt 5) (lawEnv L fa cd)) Q E s := by
  revert XK; k_fill; intro XK
  conv in (outerAt 5) => whnf
  dsimp only [lawA, lawEnv]
  have hsc : lawScope = ?sc := by conv => lhs; whnf
  rw [hsc]
  k_with_none
  (k_with "CompRest" => (with_unfolding_all first
  | (refine LCg.CompRest.succ ?_; intro v' I' oI' C' oC' D' m' h' tk' E' hv' hC' hx' F' N' off' ne'; (first | lcg_open hv' | (obtain ⟨t9', hv9'⟩ := hv'; subst hv9')))
  | refine LCg.CompRest.zero ?_))
  (k_with "FinE" => ((unfold LCg.FinE); intro D' h' tk' F' N' o1'; (try simp only [List.nil_append, List.cons_append] at N'); (try dsimp only)))
  (k_with "FinA" => ((unfold LCg.FinA); intro D' h' tk' F' N' o1'; (try simp only [List.nil_append, List.cons_append] at N'); (try dsimp only)))
  (k_with "CompEnd ref" => (k_dflt (refine' end_one_o5 ?e1 ?e2 ?e3 ?e4 ?e5 ?_; (case e1 => assumption); (case e2 => assumption); (case e3 => assumption); (case e4 => assumption); (case e5 => first | lcg_src | assumption))))
  (k_with "call ref" => (k_here; (with_reducible show wpAny _ _ (call (Value.ref 98) [Value.str _ _]) _ _ _); k_dflt (refine' told_port _ _ _ _ _ _ _ _ _ ?r1 ?r2 ?r3 _ _ _ _ _ _ _ _ _ _ _ _ ?k1 ?k2 ?k3 ?k4 ?k5 ?kf ?kk ?kd ?ku ?_; (case r1 => assumption); (case r2 => assumption); (case r3 => assumption); (case k1 => k_asm); (case k2 => k_asm); (case k3 => k_asm); (case k4 => k_asm); (case k5 => k_asm); (case kf => exact rfl); (case kk => exact rfl); (case kd => decide); (case ku => decide)); intro x9 t9 t8 k9 h9 tk9 F9 N9 l9; (try dsimp only); (try k_fold)))
  (k_with "storeName ref" => (k_here; k_dflt (refine' storeX_C ?F ?N ?c ?U ?d ?_ ?a ?b; (case a => rfl); (case b => rfl); (case F => k_asm); (case N => k_asm); (case c => rfl); (case U => exact UpdF.tail (off_ne_o5 (by assumption) (by k_mem)) (UpdF.tail (ne_lt_o5 (by assumption) (by k_mem)) (UpdF.tail (ne_lt_o5 (by assumption) (by k_mem)) (UpdF.head (by assumption))))); (case d => k_asm); k_whole; intro h' o' F' N' d'; (try dsimp only at N'))))
  (try k_fold)
  k_steps
  exact hret _ _ _ _ _ _ _ _ _ _ _ (by assumption) (by assumption) (kst_newsOf (by assumption) (by kst_inAny))
end Mine
end

section
open PySem PySem.W PyProof.Rows PySem.Calls
namespace Mine
theorem bne_no_o6 {x : Str} (h : (x != x) = true) : False := by simp at h
theorem caller_units_o6 (env : Env) : (callerA.deeper env).units + 10 < cLine := by simp only [units_deeper]; decide
set_option maxRecDepth 100000 in
set_option maxHeartbeats 8000000 in
set_option rowWalk.seconds 0 in
theorem o6 (w : World) (loose mean mg mb) (h₀ : Heap) (L fa : Addr) (cd : Value) (m : Str → Option Value) (s : Shared) (Q : Flow → Shared → Prop) (E : Value → Shared → Prop)
    (cn cm cp ck cw : Obj) (oi : Addr) (oo : Obj) (ln lp : Addr) (mk : Str) (tm tk : Tok) (k : Int) (wv : Option Value)
    (p0 p1 p2 p3 p4 p5 p6 p7 : Int) (t0 t1 t2 t3 t4 t5 t6 t7 : Tok) (n0 n1 n2 n3 n4 n5 : Int) (u0 u1 u2 u3 u4 u5 : Tok) (e1 e2 : Nat) (lw : Addr) (lr : Addr) (tr0 tr1 : Tok) (kr : Nat) (lx : Addr) (tx0 tx1 : Tok) (kx : Nat) (kd : Int) (tkd : Tok) (X1 : Int)
    (B : Below callerA h₀ [] h₀) (XK : (Mine.hd.heap_39 w.params).In h₀) (T : Top Mine.hd.view_39 loose mean mg mb h₀)
    (dw : cw.data = .cell wv) (dk : ck.data = .cell (some (.int k tk))) (dp : cp.data = .cell (some (.ref lp))) (dm : cm.data = .cell (some (.str mk tm))) (dn : cn.data = .cell (some (.ref ln)))
    (k1 : 1 ≤ k) (k7 : k ≤ 7) (hx0 : 0 ≤ [p0, p1, p2, p3, p4, p5, p6, p7].getD k.toNat 0 ∧ [p0, p1, p2, p3, p4, p5, p6, p7].getD k.toNat 0 < 2097152)
    (F : Fr h₀ L s.heap (fun y => if y = Str.ofString "right" then some (.ref lr) else if y = Str.ofString "kind" then some (.int kd tkd) else if y = Str.ofString "whole" then some (.ref lw) else m y)) (N : News h₀ L s.heap ((L + 1 + 1 + 1 + 1 + 1, cw) :: (L + 1 + 1 + 1 + 1, ck) :: (L + 1 + 1 + 1, cp) :: (L + 1 + 1, cm) :: (L + 1, cn) :: (lp, listOf #[.int p0 t0, .int p1 t1, .int p2 t2, .int p3 t3, .int p4 t4, .int p5 t5, .int p6 t6, .int p7 t7] e1) :: (ln, listOf #[.int n0 u0, .int n1 u1, .int n2 u2, .int n3 u3, .int n4 u4, .int n5 u5] e2) :: (lr, { cls := .type "tuple", data := .seq #[.str (Str.ofString "mirror") tr0, .int ([p0, p1, p2, p3, p4, p5, p6, p7].getD k.toNat 0) tr1] kr }) :: (lx, { cls := .type "tuple", data := .seq #[.str (Str.ofString "mirror") tx0, .int X1 tx1] kx }) :: [(oi, oo)]))
    (hret : ∀ (h' : Heap) (tk' : Nat), Fr h₀ L h' (fun y => if y = Str.ofString "right" then some (.ref lr) else if y = Str.ofString "kind" then some (.int kd tkd) else if y = Str.ofString "whole" then some (.ref lw) else m y) → News h₀ L h' ((L + 1 + 1 + 1 + 1 + 1, cw) :: (L + 1 + 1 + 1 + 1, ck) :: (L + 1 + 1 + 1, cp) :: (L + 1 + 1, cm) :: (L + 1, cn) :: (lp, listOf #[.int p0 t0, .int p1 t1, .int p2 t2, .int p3 t3, .int p4 t4, .int p5 t5, .int p6 t6, .int p7 t7] e1) :: (ln, listOf #[.int n0 u0, .int n1 u1, .int n2 u2, .int n3 u3, .int n4 u4, .int n5 u5] e2) :: (lr, { cls := .type "tuple", data := .seq #[.str (Str.ofString "mirror") tr0, .int ([p0, p1, p2, p3, p4, p5, p6, p7].getD k.toNat 0) tr1] kr }) :: (lx, { cls := .type "tuple", data := .seq #[.str (Str.ofString "mirror") tx0, .int X1 tx1] kx }) :: [(oi, oo)]) → Q .next { s with heap := h', toks := tk' }) :
    wpAny (model PySem.Challenge.rw_rl0004_01.row.prog w) (lawA L fa cd) (exec (outerAt 6) (lawEnv L fa cd)) Q E s := by
  revert XK; k_fill; intro XK
  conv in (outerAt 6) => whnf
  dsimp only [lawA, lawEnv]
  have hsc : lawScope = ?sc := by conv => lhs; whnf
  rw [hsc]
  k_with_none
  (k_with "call type:str" => (k_here; (with_reducible show wpAny _ _ (call (Value.type "str") [Value.ref _]) _ _ _); k_dflt (refine' mirror_str ?k1 ?k2 ?k3 ?k4 ?k5 ?kg ?ku ?_; (case k1 => k_asm); (case k2 => k_asm); (case k3 => k_mem); (case k4 => exact And.left (by assumption)); (case k5 => exact And.right (by assumption)); (case kg => exact rfl); (case ku => exact caller_units_o6 _)); intro h9 u9 tk9 F9 N9; (try dsimp only); (try k_fold)))
  (try k_fold)
  k_steps
  · exact (bne_no_o6 (by assumption)).elim
  · exact hret _ _ (by assumption) (kst_newsOf (by assumption) (by kst_inAny))
end Mine
end

section
open PySem PySem.W PyProof.Rows PySem.Calls
namespace Mine
theorem rg_le_o7 {k : Int} (h : k < 0 + (((20 : Int) - 0).toNat : Int)) : k ≤ 1000000 := by omega
theorem rg_lt_o7 {k : Int} (h : k < 0 + (((20 : Int) - 0).toNat : Int)) : k < 30 := by omega
theorem rg_le3_o7 {k : Int} (h : k < 0 + (((3 : Int) - 0).toNat : Int)) : k ≤ 1000000 := by omega
theorem rg_lt3_o7 {k : Int} (h : k < 0 + (((3 : Int) - 0).toNat : Int)) : k < 30 := by omega
theorem len8_off_o7 {k X1 p0 p1 p2 p3 p4 p5 p6 p7 : Int} (h1 : 1 ≤ k) (h7 : k ≤ 7) : (List.take k.toNat [p0, p1, p2, p3, p4, p5, p6, p7] ++ [X1] ++ List.drop (k + 1).toNat [p0, p1, p2, p3, p4, p5, p6, p7]).length = 8 := by
  simp only [List.length_append, List.length_take, List.length_drop, List.length_cons, List.length_nil]; omega
theorem rg_23_o7 {k : Int} (h : k < 0 + (((3 : Int) - 0).toNat : Int)) : k ≤ 2 := by omega
theorem ints3_o7 {ys : List Value} {f : Int → Int} (h : IntsAre ys (List.map f (rangeKs 0 ((3 : Int) - 0).toNat))) : ∃ a b c, ys = [.int (f 0) a, .int (f 1) b, .int (f 2) c] := by
  have e : List.map f (rangeKs 0 ((3 : Int) - 0).toNat) = [f 0, f 1, f 2] := rfl
  rw [e] at h
  cases h with
  | cons _ a h => cases h with
    | cons _ b h => cases h with
      | cons _ c h =>
        cases h
        exact ⟨a, b, c, rfl⟩
set_option maxRecDepth 100000 in
set_option maxHeartbeats 8000000 in
set_option rowWalk.seconds 0 in
theorem o7 (w : World) (loose mean mg mb) (h₀ : Heap) (L fa : Addr) (cd : Value) (m : Str → Option Value) (s : Shared) (Q : Flow → Shared → Prop) (E : Value → Shared → Prop)
    (cn cm cp ck cw : Obj) (oi : Addr) (oo : Obj) (ln lp : Addr) (mk : Str) (tm tk : Tok) (k : Int)
    (p0 p1 p2 p3 p4 p5 p6 p7 : Int) (t0 t1 t2 t3 t4 t5 t6 t7 : Tok) (n0 n1 n2 n3 n4 n5 : Int) (u0 u1 u2 u3 u4 u5 : Tok) (e1 e2 : Nat) (lw lr : Addr) (lx : Addr) (tx0 tx1 : Tok) (kx : Nat) (kd : Int) (tkd : Tok) (X1 : Int)
    (B : Below callerA h₀ [] h₀) (XK : (Mine.hd.heap_39 w.params).In h₀) (T : Top Mine.hd.view_39 loose mean mg mb h₀)
    (dw : cw.data = .cell (some (.ref lx))) (dk : ck.data = .cell (some (.int k tk))) (dp : cp.data = .cell (some (.ref lp))) (dm : cm.data = .cell (some (.str mk tm))) (dn : cn.data = .cell (some (.ref ln)))
    (k1 : 1 ≤ k) (k7 : k ≤ 7) (hip : IntsAre [.int p0 t0, .int p1 t1, .int p2 t2, .int p3 t3, .int p4 t4, .int p5 t5, .int p6 t6, .int p7 t7] [p0, p1, p2, p3, p4, p5, p6, p7]) (k0 : 0 ≤ k) (k0' : 0 ≤ k + 1)
    (F : Fr h₀ L s.heap (fun y => if y = Str.ofString "right" then some (.ref lr) else if y = Str.ofString "kind" then some (.int kd tkd) else if y = Str.ofString "whole" then some (.ref lw) else m y)) (N : News h₀ L s.heap ((L + 1 + 1 + 1 + 1 + 1, cw) :: (L + 1 + 1 + 1 + 1, ck) :: (L + 1 + 1 + 1, cp) :: (L + 1 + 1, cm) :: (L + 1, cn) :: (lp, listOf #[.int p0 t0, .int p1 t1, .int p2 t2, .int p3 t3, .int p4 t4, .int p5 t5, .int p6 t6, .int p7 t7] e1) :: (ln, listOf #[.int n0 u0, .int n1 u1, .int n2 u2, .int n3 u3, .int n4 u4, .int n5 u5] e2) :: (lx, { cls := .type "tuple", data := .seq #[.str (Str.ofString "mirror") tx0, .int X1 tx1] kx }) :: [(oi, oo)]))
    (hret : ∀ (h' : Heap) (tk' : Nat) (lo : Addr) (to0 to1 to2 : Tok) (eo : Nat), Fr h₀ L h' (fun y => if y = Str.ofString "off" then some (.ref lo) else if y = Str.ofString "right" then some (.ref lr) else if y = Str.ofString "kind" then some (.int kd tkd) else if y = Str.ofString "whole" then some (.ref lw) else m y) → News h₀ L h' ((L + 1 + 1 + 1 + 1 + 1, cw) :: (L + 1 + 1 + 1 + 1, ck) :: (L + 1 + 1 + 1, cp) :: (L + 1 + 1, cm) :: (L + 1, cn) :: (lp, listOf #[.int p0 t0, .int p1 t1, .int p2 t2, .int p3 t3, .int p4 t4, .int p5 t5, .int p6 t6, .int p7 t7] e1) :: (ln, listOf #[.int n0 u0, .int n1 u1, .int n2 u2, .int n3 u3, .int n4 u4, .int n5 u5] e2) :: (lo, listOf #[.int (lawSum (List.take k.toNat [p0, p1, p2, p3, p4, p5, p6, p7] ++ [X1] ++ List.drop (k + 1).toNat [p0, p1, p2, p3, p4, p5, p6, p7]) 0 0) to0, .int (lawSum (List.take k.toNat [p0, p1, p2, p3, p4, p5, p6, p7] ++ [X1] ++ List.drop (k + 1).toNat [p0, p1, p2, p3, p4, p5, p6, p7]) 1 0) to1, .int (lawSum (List.take k.toNat [p0, p1, p2, p3, p4, p5, p6, p7] ++ [X1] ++ List.drop (k + 1).toNat [p0, p1, p2, p3, p4, p5, p6, p7]) 2 0) to2] eo) :: (lx, { cls := .type "tuple", data := .seq #[.str (Str.ofString "mirror") tx0, .int X1 tx1] kx }) :: [(oi, oo)]) → Q .next { s with heap := h', toks := tk' }) :
    wpAny (model PySem.Challenge.rw_rl0004_01.row.prog w) (lawA L fa cd) (exec (outerAt 7) (lawEnv L fa cd)) Q E s := by
  revert XK; k_fill; intro XK
  conv in (outerAt 7) => whnf
  dsimp only [lawA, lawEnv]
  have hsc : lawScope = ?sc := by conv => lhs; whnf
  rw [hsc]
  k_with_none
  (k_with "CompSrc" => (k_here; (try k_fmods); k_dflt (refine LCg.CompSrc.range (by rfl) (by k_asm) (by k_asm) (by assumption) (by first | exact small_one (by kcf_bnd) (by kcf_bnd) (by kcf_bnd) (by kcf_bnd) | decide) (by first | exact rangeSize_nat _ _ | rfl) (by exact Nat.le_of_ble_eq_true rfl) ?_; intro g'; (refine' kcf_range _ (fun k' t' I' oI' C' oC' D' m' ys' h' tk' E' hlo' hhi' hC' hx' F' N' off' ne' hMark' => ?_) ?_); kcf_last)))
  (k_with "binaryOp Pow int int" => (with_reducible refine pow_int_small ?kb1 ?kb2 ?kb3 ?_; (case kb1 => assumption); (case kb2 => first | exact rg_le_o7 (by assumption) | exact rg_le3_o7 (by assumption)); (case kb3 => decide)))
  (k_with "binaryOp FloorDiv int int" => (with_reducible refine fd_pow ?kb1 ?kb2 ?_; (case kb1 => assumption); (case kb2 => first | exact rg_lt_o7 (by assumption) | exact rg_lt3_o7 (by assumption))))
  (k_with "subscriptTail Name Slice ref ref" => (k_here; (with_reducible rename IntsAre (List.cons (Value.int _ _) (List.cons (Value.int _ _) (List.cons (Value.int _ _) (List.cons (Value.int _ _) (List.cons (Value.int _ _) (List.cons (Value.int _ _) (List.cons (Value.int _ _) (List.cons (Value.int _ _) _)))))))) _ => hip9); k_dflt (refine' kmk_slice_ints (s := ⟨_, _, _, _, _⟩) (by k_asm) (by k_asm) (by exact News.isList (by k_asm) (by k_mem)) (by kmk_part) (by kmk_part) hip9 (by first | exact kmk_upto hip9 (by assumption) | exact kmk_from hip9 (by assumption) | exact kmk_run hip9 (by assumption) (by assumption)) (by kmk_len) ?_ (by with_unfolding_all rfl) (by kmk_pure) (by exact Nat.le_of_ble_eq_true rfl)); intro D' ws' h' F' N' l1 hI' hC' hL'; clear hC' hL'; (try dsimp only)))
  (k_with "call ref" => (k_here; (with_reducible show wpAny _ _ (call (Value.ref 84) [Value.ref _, Value.int _ _, Value.int _ _]) _ _ _); k_dflt (refine' sum_use ?r1 ?r2 ?r3 ?r4 ?r5 ?k1 ?k2 ?k3 ?k4 ?k5 ?kK ?_; (case k1 => k_asm); (case k2 => k_asm); (case k3 => k_asm); (case k4 => k_asm); (case k5 => k_asm); (case r1 => k_mem); (case r2 => assumption); (case r3 => exact len8_off_o7 (by assumption) (by assumption)); (case r4 => assumption); (case r5 => exact rg_23_o7 (by assumption)); (case kK => exact rfl)); intro t9 h9 tk9 F9 N9; (try dsimp only); (try k_fold)))
  (try k_fold)
  k_dflt (refine LCg.Assign_ListComp_U (F₀ := by k_asm) (by rfl) (by with_unfolding_all rfl) (by with_unfolding_all rfl) (by decide) (by rfl) (by decide) (by rfl) (by rfl) (by rfl) ?_)
  k_steps
  (rename IntsAre _ (List.map _ (rangeKs _ _)) => hi9)
  obtain ⟨a0, a1, a2, e9⟩ := ints3_o7 hi9
  subst e9
  exact hret _ _ _ _ _ _ _ (by assumption) (kst_newsOf (by assumption) (by kst_inAny))
end Mine
end

section
open PySem PySem.W PyProof.Rows PySem.Calls
namespace Mine
theorem rg_le_o8 {k : Int} (h : k < 0 + (((20 : Int) - 0).toNat : Int)) : k ≤ 1000000 := by omega
theorem rg_lt_o8 {k : Int} (h : k < 0 + (((20 : Int) - 0).toNat : Int)) : k < 30 := by omega
theorem rg_le3_o8 {k : Int} (h : k < 0 + (((3 : Int) - 0).toNat : Int)) : k ≤ 1000000 := by omega
theorem rg_lt3_o8 {k : Int} (h : k < 0 + (((3 : Int) - 0).toNat : Int)) : k < 30 := by omega
set_option maxRecDepth 100000 in
set_option maxHeartbeats 8000000 in
set_option rowWalk.seconds 0 in
theorem o8 (w : World) (loose mean mg mb) (h₀ : Heap) (L fa : Addr) (cd : Value) (m : Str → Option Value) (s : Shared) (Q : Flow → Shared → Prop) (E : Value → Shared → Prop)
    (cn cm cp ck cw : Obj) (oi : Addr) (oo : Obj) (ln lp : Addr) (mk : Str) (tm tk : Tok) (k : Int)
    (p0 p1 p2 p3 p4 p5 p6 p7 : Int) (t0 t1 t2 t3 t4 t5 t6 t7 : Tok) (n0 n1 n2 n3 n4 n5 : Int) (u0 u1 u2 u3 u4 u5 : Tok) (e1 e2 : Nat) (lx : Addr) (tx0 tx1 : Tok) (kx : Nat) (lo : Addr) (o0 o1 o2 : Int) (to0 to1 to2 : Tok) (eo : Nat) (lr : Addr) (X1 : Int)
    (B : Below callerA h₀ [] h₀) (XK : (Mine.hd.heap_39 w.params).In h₀) (T : Top Mine.hd.view_39 loose mean mg mb h₀)
    (dw : cw.data = .cell (some (.ref lx))) (dk : ck.data = .cell (some (.int k tk))) (dp : cp.data = .cell (some (.ref lp))) (dm : cm.data = .cell (some (.str mk tm))) (dn : cn.data = .cell (some (.ref ln)))
    (k1 : 1 ≤ k) (k7 : k ≤ 7) (ho : [o0, o1, o2] = List.map (fun k' => ([n0, n1, n2, n3, n4, n5].getD (Int.toNat 5) 0 + 1) * (k.fdiv (2 ^ k'.toNat)).fmod 2) (rangeKs 0 ((3 : Int) - 0).toNat))
    (F : Fr h₀ L s.heap (fun y => if y = Str.ofString "off" then some (.ref lo) else if y = Str.ofString "right" then some (.ref lr) else m y)) (N : News h₀ L s.heap ((L + 1 + 1 + 1 + 1 + 1, cw) :: (L + 1 + 1 + 1 + 1, ck) :: (L + 1 + 1 + 1, cp) :: (L + 1 + 1, cm) :: (L + 1, cn) :: (lp, listOf #[.int p0 t0, .int p1 t1, .int p2 t2, .int p3 t3, .int p4 t4, .int p5 t5, .int p6 t6, .int p7 t7] e1) :: (ln, listOf #[.int n0 u0, .int n1 u1, .int n2 u2, .int n3 u3, .int n4 u4, .int n5 u5] e2) :: (lo, listOf #[.int o0 to0, .int o1 to1, .int o2 to2] eo) :: (lx, { cls := .type "tuple", data := .seq #[.str (Str.ofString "mirror") tx0, .int X1 tx1] kx }) :: [(oi, oo)]))
    (hret : ∀ (h' : Heap) (tk' : Nat), Fr h₀ L h' (fun y => if y = Str.ofString "off" then some (.ref lo) else if y = Str.ofString "right" then some (.ref lr) else m y) → News h₀ L h' ((L + 1 + 1 + 1 + 1 + 1, cw) :: (L + 1 + 1 + 1 + 1, ck) :: (L + 1 + 1 + 1, cp) :: (L + 1 + 1, cm) :: (L + 1, cn) :: (lp, listOf #[.int p0 t0, .int p1 t1, .int p2 t2, .int p3 t3, .int p4 t4, .int p5 t5, .int p6 t6, .int p7 t7] e1) :: (ln, listOf #[.int n0 u0, .int n1 u1, .int n2 u2, .int n3 u3, .int n4 u4, .int n5 u5] e2) :: (lo, listOf #[.int o0 to0, .int o1 to1, .int o2 to2] eo) :: (lx, { cls := .type "tuple", data := .seq #[.str (Str.ofString "mirror") tx0, .int X1 tx1] kx }) :: [(oi, oo)]) → Q .next { s with heap := h', toks := tk' }) :
    wpAny (model PySem.Challenge.rw_rl0004_01.row.prog w) (lawA L fa cd) (exec (outerAt 8) (lawEnv L fa cd)) Q E s := by
  revert XK; k_fill; intro XK
  conv in (outerAt 8) => whnf
  dsimp only [lawA, lawEnv]
  have hsc : lawScope = ?sc := by conv => lhs; whnf
  rw [hsc]
  k_with_none
  (k_with "CompEnd" => ((with_reducible rename News _ _ _ (List.cons (_, _) (List.cons (_, _) (List.cons (_, LCg.lst _) _))) => N9); refine LCg.CompEnd.intro (by assumption) N9 _ (fun _ hp => hp) (by first | assumption | (simp only [LCg.Off3, and_true]; assumption)) (by first | lcg_src | assumption) ?_))
  (k_with "binaryOp Pow int int" => (with_reducible refine pow_int_small ?kb1 ?kb2 ?kb3 ?_; (case kb1 => assumption); (case kb2 => first | exact rg_le_o8 (by assumption) | exact rg_le3_o8 (by assumption)); (case kb3 => decide)))
  (k_with "binaryOp FloorDiv int int" => (with_reducible refine fd_pow ?kb1 ?kb2 ?_; (case kb1 => assumption); (case kb2 => first | exact rg_lt_o8 (by assumption) | exact rg_lt3_o8 (by assumption))))
  (try k_fold)
  k_steps
  exact hret _ _ (by assumption) (kst_newsOf (by assumption) (by kst_inAny))
end Mine
end

section
open PySem PySem.W PyProof.Rows PySem.Calls
namespace Mine
theorem small_1k_o9 {k : Int} (h1 : 1 ≤ k) (h7 : k ≤ 7) : Builtin.Range.small 1 k 1 = true := small_one (by omega) (by omega) (by omega) (by omega)
set_option maxRecDepth 100000 in
set_option maxHeartbeats 8000000 in
set_option rowWalk.seconds 0 in
theorem o9 (w : World) (loose mean mg mb) (h₀ : Heap) (L fa : Addr) (cd : Value) (m : Str → Option Value) (s : Shared) (Q : Flow → Shared → Prop) (E : Value → Shared → Prop)
    (cn cm cp ck cw : Obj) (oi : Addr) (oo : Obj) (ln lp : Addr) (mk : Str) (tm tk : Tok) (k : Int) (wv : Option Value)
    (p0 p1 p2 p3 p4 p5 p6 p7 : Int) (t0 t1 t2 t3 t4 t5 t6 t7 : Tok) (n0 n1 n2 n3 n4 n5 : Int) (u0 u1 u2 u3 u4 u5 : Tok) (e1 e2 : Nat)
    (B : Below callerA h₀ [] h₀) (XK : (Mine.hd.heap_39 w.params).In h₀) (T : Top Mine.hd.view_39 loose mean mg mb h₀)
    (dw : cw.data = .cell wv) (dk : ck.data = .cell (some (.int k tk))) (dp : cp.data = .cell (some (.ref lp))) (dm : cm.data = .cell (some (.str mk tm))) (dn : cn.data = .cell (some (.ref ln)))
    (k1 : 1 ≤ k) (k7 : k ≤ 7) (hip : IntsAre [.int p0 t0, .int p1 t1, .int p2 t2, .int p3 t3, .int p4 t4, .int p5 t5, .int p6 t6, .int p7 t7] [p0, p1, p2, p3, p4, p5, p6, p7]) (k0 : 0 ≤ k) (k0' : 0 ≤ k + 1) (hleft : ∀ j : Int, 1 ≤ j → j < k → (((List.take j.toNat [p0, p1, p2, p3, p4, p5, p6, p7] ++ [0] ++ List.take (min k.toNat [p0, p1, p2, p3, p4, p5, p6, p7].length - (j + 1).toNat) (List.drop (j + 1).toNat [p0, p1, p2, p3, p4, p5, p6, p7]) ++ [0] ++ List.drop (k + 1).toNat [p0, p1, p2, p3, p4, p5, p6, p7]).set k.toNat (lawSum (List.take j.toNat [p0, p1, p2, p3, p4, p5, p6, p7] ++ [0] ++ List.take (min k.toNat [p0, p1, p2, p3, p4, p5, p6, p7].length - (j + 1).toNat) (List.drop (j + 1).toNat [p0, p1, p2, p3, p4, p5, p6, p7]) ++ [0] ++ List.drop (k + 1).toNat [p0, p1, p2, p3, p4, p5, p6, p7]) (((Builtin.Int.intBits (Builtin.bitXor j k) : Nat) : Int) - 1) k)).set j.toNat (lawSum ((List.take j.toNat [p0, p1, p2, p3, p4, p5, p6, p7] ++ [0] ++ List.take (min k.toNat [p0, p1, p2, p3, p4, p5, p6, p7].length - (j + 1).toNat) (List.drop (j + 1).toNat [p0, p1, p2, p3, p4, p5, p6, p7]) ++ [0] ++ List.drop (k + 1).toNat [p0, p1, p2, p3, p4, p5, p6, p7]).set k.toNat (lawSum (List.take j.toNat [p0, p1, p2, p3, p4, p5, p6, p7] ++ [0] ++ List.take (min k.toNat [p0, p1, p2, p3, p4, p5, p6, p7].length - (j + 1).toNat) (List.drop (j + 1).toNat [p0, p1, p2, p3, p4, p5, p6, p7]) ++ [0] ++ List.drop (k + 1).toNat [p0, p1, p2, p3, p4, p5, p6, p7]) (((Builtin.Int.intBits (Builtin.bitXor j k) : Nat) : Int) - 1) k)) (((Builtin.Int.intBits j : Nat) : Int) - 1) j)) = [p0, p1, p2, p3, p4, p5, p6, p7])
    (F : Fr h₀ L s.heap m) (N : News h₀ L s.heap ((L + 1 + 1 + 1 + 1 + 1, cw) :: (L + 1 + 1 + 1 + 1, ck) :: (L + 1 + 1 + 1, cp) :: (L + 1 + 1, cm) :: (L + 1, cn) :: (lp, listOf #[.int p0 t0, .int p1 t1, .int p2 t2, .int p3 t3, .int p4 t4, .int p5 t5, .int p6 t6, .int p7 t7] e1) :: (ln, listOf #[.int n0 u0, .int n1 u1, .int n2 u2, .int n3 u3, .int n4 u4, .int n5 u5] e2) :: [(oi, oo)]))
    (hret : ∀ (h' : Heap) (tk' : Nat) (m' : Str → Option Value), Fr h₀ L h' m' → News h₀ L h' ((L + 1 + 1 + 1 + 1 + 1, cw) :: (L + 1 + 1 + 1 + 1, ck) :: (L + 1 + 1 + 1, cp) :: (L + 1 + 1, cm) :: (L + 1, cn) :: (lp, listOf #[.int p0 t0, .int p1 t1, .int p2 t2, .int p3 t3, .int p4 t4, .int p5 t5, .int p6 t6, .int p7 t7] e1) :: (ln, listOf #[.int n0 u0, .int n1 u1, .int n2 u2, .int n3 u3, .int n4 u4, .int n5 u5] e2) :: [(oi, oo)]) → Q .next { s with heap := h', toks := tk' }) :
    wpC (model PySem.Challenge.rw_rl0004_01.row.prog w) (lawA L fa cd) (exec (outerAt 9) (lawEnv L fa cd)) Q E s := by
  revert XK; k_fill; intro XK
  conv in (outerAt 9) => whnf
  dsimp only [lawA, lawEnv]
  have hsc : lawScope = ?sc := by conv => lhs; whnf
  rw [hsc]
  k_with_none
  (k_with "call ref" => (k_here; (with_reducible show wpAny _ _ (call (Value.ref 84) [Value.ref _, Value.int _ _, Value.int _ _]) _ _ _); k_dflt (refine' sum_use ?r1 ?r2 ?r3 ?r4 ?r5 ?k1 ?k2 ?k3 ?k4 ?k5 ?kK ?_; (case k1 => k_asm); (case k2 => k_asm); (case k3 => k_asm); (case k4 => k_asm); (case k5 => k_asm); (case r1 => k_mem); (case r2 => assumption); (case r3 => first | exact len8_left (by assumption) (by assumption) (by assumption) | exact len8_left1 (by assumption) (by assumption) (by assumption)); (case r4 => first | exact hbx_lo (by assumption) (by assumption) (by assumption) | exact hbi_lo (by assumption) (by assumption) (by assumption)); (case r5 => first | exact hbx_hi (by assumption) (by assumption) (by assumption) | exact hbi_hi (by assumption) (by assumption) (by assumption)); (case kK => exact rfl)); intro t9 h9 tk9 F9 N9; (try dsimp only); (try k_fold)))
  (k_with "subscriptTail Name Slice ref ref" => (k_here; (with_reducible rename IntsAre (List.cons (Value.int _ _) (List.cons (Value.int _ _) (List.cons (Value.int _ _) (List.cons (Value.int _ _) (List.cons (Value.int _ _) (List.cons (Value.int _ _) (List.cons (Value.int _ _) (List.cons (Value.int _ _) _)))))))) _ => hip9); k_dflt (refine' kmk_slice_ints (s := ⟨_, _, _, _, _⟩) (by k_asm) (by k_asm) (by exact News.isList (by k_asm) (by k_mem)) (by kmk_part) (by kmk_part) hip9 (by first | exact kmk_upto hip9 (by assumption) | exact kmk_from hip9 (by assumption) | exact kmk_run hip9 (by assumption) (by assumption)) (by kmk_len) ?_ (by with_unfolding_all rfl) (by kmk_pure) (by exact Nat.le_of_ble_eq_true rfl)); intro D' ws' h' F' N' l1 hI' hC' hL'; clear hC' hL'; (try dsimp only)))
  (k_with "setItem ref int" => (k_here; (with_reducible show wpAny _ _ (setItem (Value.ref _) (Value.int _ _) (Value.int _ _)) _ _ _); k_dflt (refine' ksa_set (by k_asm) (by k_asm) (by k_upd) (by with_reducible assumption) (by assumption) (by exact idx8 (by assumption) (by first | exact len8_left (by assumption) (by assumption) (by assumption) | exact len8_left1 (by assumption) (by assumption) (by assumption))) (by exact small63 (by assumption)) ?_; k_whole); intro h' F' N' hi' hl' hs'; clear hl' hs'; (try dsimp only)))
  (try k_fold)
  k_dflt (refine forC ?_ (by intro _; rfl) rfl)
  k_steps
  (rename IsRange _ _ _ _ _ _ _ _ => rg9)
  k_dflt (refine' rangeC (fun _ _ led' => led' = ((L + 1 + 1 + 1 + 1 + 1, cw) :: (L + 1 + 1 + 1 + 1, ck) :: (L + 1 + 1 + 1, cp) :: (L + 1 + 1, cm) :: (L + 1, cn) :: (lp, listOf #[.int p0 t0, .int p1 t1, .int p2 t2, .int p3 t3, .int p4 t4, .int p5 t5, .int p6 t6, .int p7 t7] e1) :: (ln, listOf #[.int n0 u0, .int n1 u1, .int n2 u2, .int n3 u3, .int n4 u4, .int n5 u5] e2) :: [(oi, oo)])) ?hh ?hr ?hs ?hn ?F ?N ?h0 ?turn ?done; (case hh => exact rfl); (case hr => exact rg9); (case hs => exact small_1k_o9 (by assumption) (by assumption)); (case hn => exact rangeSize_nat _ _); (case F => k_asm); (case N => k_asm); (case h0 => exact rfl))
  case done =>
    intro m9 led9 h9 tk9 hI9 F9 N9
    subst hI9
    exact hret _ _ _ F9 N9
  case turn =>
    intro i9 m9 led9 h9 tk9 I9 oI9 t9 hi9 hI9 F9 N9 hne9
    subst hI9
    have hi8 : 1 + (i9 : Int) < k := by omega
    have j1 : 1 ≤ 1 + (i9 : Int) := by omega
    generalize 1 + (i9 : Int) = j at hi8 j1 ⊢
    clear hi9
    have j0 : 0 ≤ j := by omega
    have j0' : 0 ≤ j + 1 := by omega
    have j7 : j ≤ 7 := by omega
    have hlf := hleft j j1 hi8
    clear hleft
    (try k_fold)
    k_steps
    refine wpC_of ?_
    (try k_fold)
    k_steps
    exact TurnDone.intro _ (by assumption) (kst_newsOf (by assumption) (by kst_inAny)) hne9 rfl
end Mine
end

section
open PySem PySem.W PyProof.Rows PySem.Calls
namespace Mine
theorem news_drop6 {h₀ h : Heap} {L : Addr} {a b c d e f g q x y : Addr × Obj} (N : News h₀ L h (a :: b :: c :: d :: e :: f :: g :: q :: x :: [y])) : News h₀ L h (a :: b :: c :: d :: e :: f :: g :: x :: [y]) := fun p hp => N p (by
  simp only [List.mem_cons] at hp ⊢
  rcases hp with h | h | h | h | h | h | h | h | h | h <;> simp [h])
theorem news_drop8 {h₀ h : Heap} {L : Addr} {a b c d e f g q x y : Addr × Obj} (N : News h₀ L h (a :: b :: c :: d :: e :: f :: g :: q :: x :: [y])) : News h₀ L h (a :: b :: c :: d :: e :: f :: g :: [y]) := fun p hp => N p (by
  simp only [List.mem_cons] at hp ⊢
  rcases hp with h | h | h | h | h | h | h | h | h <;> simp [h])
theorem ints8 (p0 p1 p2 p3 p4 p5 p6 p7 : Int) (t0 t1 t2 t3 t4 t5 t6 t7 : Tok) : IntsAre [.int p0 t0, .int p1 t1, .int p2 t2, .int p3 t3, .int p4 t4, .int p5 t5, .int p6 t6, .int p7 t7] [p0, p1, p2, p3, p4, p5, p6, p7] := .cons _ _ (.cons _ _ (.cons _ _ (.cons _ _ (.cons _ _ (.cons _ _ (.cons _ _ (.cons _ _ .nil)))))))
theorem body_eq : outerBody = [outerAt 0, outerAt 1, outerAt 2, outerAt 3, outerAt 4, outerAt 5, outerAt 6, outerAt 7, outerAt 8, outerAt 9] := rfl
set_option maxRecDepth 100000 in
set_option maxHeartbeats 8000000 in
set_option rowWalk.seconds 0 in
theorem body_ok (w : World) (loose mean mg mb) (h₀ : Heap) (L fa : Addr) (cd : Value) (m : Str → Option Value) (s : Shared) (Q : Flow → Shared → Prop) (E : Value → Shared → Prop)
    (cn cm cp ck cw : Obj) (oi : Addr) (oo : Obj) (ln lp : Addr) (mk : Str) (tm tk : Tok) (k : Int) (wv : Option Value)
    (p0 p1 p2 p3 p4 p5 p6 p7 : Int) (t0 t1 t2 t3 t4 t5 t6 t7 : Tok) (n0 n1 n2 n3 n4 n5 : Int) (u0 u1 u2 u3 u4 u5 : Tok) (e1 e2 : Nat)
    (B : Below callerA h₀ [] h₀) (XK : (Mine.hd.heap_39 w.params).In h₀) (T : Top Mine.hd.view_39 loose mean mg mb h₀)
    (dw : cw.data = .cell wv) (dk : ck.data = .cell (some (.int k tk))) (dp : cp.data = .cell (some (.ref lp))) (dm : cm.data = .cell (some (.str mk tm))) (dn : cn.data = .cell (some (.ref ln)))
    (k1 : 1 ≤ k) (k7 : k ≤ 7) (hne5 : ∀ p ∈ (((L + 1 + 1 + 1 + 1, ck) :: (L + 1 + 1 + 1, cp) :: (L + 1 + 1, cm) :: (L + 1, cn) :: (lp, listOf #[.int p0 t0, .int p1 t1, .int p2 t2, .int p3 t3, .int p4 t4, .int p5 t5, .int p6 t6, .int p7 t7] e1) :: (ln, listOf #[.int n0 u0, .int n1 u1, .int n2 u2, .int n3 u3, .int n4 u4, .int n5 u5] e2) :: [(oi, oo)]) : List (Addr × Obj)), p.1 ≠ L + 1 + 1 + 1 + 1 + 1) (hp : ∀ x ∈ [p0, p1, p2, p3, p4, p5, p6, p7], 0 ≤ x ∧ x < 1048576) (hn4 : 0 ≤ n4 ∧ n4 < 1000000) (hn5 : 0 ≤ n5 ∧ n5 < 1000000) (hmk : MarkOk mk) (hcode : CodeOk p0 p1 p2 p3 p4 p5 p6 p7)
    (F : Fr h₀ L s.heap m) (N : News h₀ L s.heap ((L + 1 + 1 + 1 + 1 + 1, cw) :: (L + 1 + 1 + 1 + 1, ck) :: (L + 1 + 1 + 1, cp) :: (L + 1 + 1, cm) :: (L + 1, cn) :: (lp, listOf #[.int p0 t0, .int p1 t1, .int p2 t2, .int p3 t3, .int p4 t4, .int p5 t5, .int p6 t6, .int p7 t7] e1) :: (ln, listOf #[.int n0 u0, .int n1 u1, .int n2 u2, .int n3 u3, .int n4 u4, .int n5 u5] e2) :: [(oi, oo)]))
    (hret : ∀ (h' : Heap) (tk' : Nat) (m' : Str → Option Value) (cw' : Obj) (lx : Addr), cw'.data = .cell (some (.ref lx)) → Fr h₀ L h' m' → News h₀ L h' ((L + 1 + 1 + 1 + 1 + 1, cw') :: (L + 1 + 1 + 1 + 1, ck) :: (L + 1 + 1 + 1, cp) :: (L + 1 + 1, cm) :: (L + 1, cn) :: (lp, listOf #[.int p0 t0, .int p1 t1, .int p2 t2, .int p3 t3, .int p4 t4, .int p5 t5, .int p6 t6, .int p7 t7] e1) :: (ln, listOf #[.int n0 u0, .int n1 u1, .int n2 u2, .int n3 u3, .int n4 u4, .int n5 u5] e2) :: [(oi, oo)]) → Q .next { s with heap := h', toks := tk' }) :
    wpC (model PySem.Challenge.rw_rl0004_01.row.prog w) (lawA L fa cd) (execs outerBody (lawEnv L fa cd)) Q E s := by
  have hpx := xor_bnd (n5 := n5) hp k1 k7 hn5
  have b0 := hpx _ (.head _)
  have b1 := hpx _ (.tail _ (.head _))
  have k0 : 0 ≤ k := by omega
  have k0' : 0 ≤ k + 1 := by omega
  have d0 : 0 ≤ (n4 + k).fmod 7 := Int.fmod_nonneg_of_pos _ (by decide)
  have d1 : (n4 + k).fmod 7 < 7 := Int.fmod_lt_of_pos _ (by decide)
  rw [body_eq]
  refine execsC_cons (wpC_of (o0 (dw := dw) (w := w) (loose := loose) (mean := mean) (mg := mg) (mb := mb) (h₀ := h₀) (L := L) (cn := cn) (cm := cm) (cp := cp) (ck := ck) (oi := oi) (oo := oo) (ln := ln) (lp := lp) (mk := mk) (tm := tm) (tk := tk) (k := k) (p0 := p0) (p1 := p1) (p2 := p2) (p3 := p3) (p4 := p4) (p5 := p5) (p6 := p6) (p7 := p7) (t0 := t0) (t1 := t1) (t2 := t2) (t3 := t3) (t4 := t4) (t5 := t5) (t6 := t6) (t7 := t7) (n0 := n0) (n1 := n1) (n2 := n2) (n3 := n3) (n4 := n4) (n5 := n5) (u0 := u0) (u1 := u1) (u2 := u2) (u3 := u3) (u4 := u4) (u5 := u5) (e1 := e1) (e2 := e2) (fa := fa) (cd := cd) (Q := _) (E := E) (B := B) (XK := XK) (T := T) (dk := dk) (dp := dp) (dm := dm) (dn := dn) (k1 := k1) (k7 := k7) (hp := hp) (F := F) (N := N) (hret := ?_)))
  intro h1 tk1 F1 N1
  dsimp only
  refine execsC_cons (wpC_of (o1 (dw := dw) (w := w) (loose := loose) (mean := mean) (mg := mg) (mb := mb) (h₀ := h₀) (L := L) (cn := cn) (cm := cm) (cp := cp) (ck := ck) (oi := oi) (oo := oo) (ln := ln) (lp := lp) (mk := mk) (tm := tm) (tk := tk) (k := k) (p0 := p0) (p1 := p1) (p2 := p2) (p3 := p3) (p4 := p4) (p5 := p5) (p6 := p6) (p7 := p7) (t0 := t0) (t1 := t1) (t2 := t2) (t3 := t3) (t4 := t4) (t5 := t5) (t6 := t6) (t7 := t7) (n0 := n0) (n1 := n1) (n2 := n2) (n3 := n3) (n4 := n4) (n5 := n5) (u0 := u0) (u1 := u1) (u2 := u2) (u3 := u3) (u4 := u4) (u5 := u5) (e1 := e1) (e2 := e2) (fa := fa) (cd := cd) (Q := _) (E := E) (B := B) (XK := XK) (T := T) (dk := dk) (dp := dp) (dm := dm) (dn := dn) (k1 := k1) (k7 := k7) (hp := hp) (F := F1) (N := N1) (hret := ?_)))
  intro h2 tk2 F2 N2
  dsimp only
  refine execsC_cons (wpC_of (o2 (dw := dw) (w := w) (loose := loose) (mean := mean) (mg := mg) (mb := mb) (h₀ := h₀) (L := L) (cn := cn) (cm := cm) (cp := cp) (ck := ck) (oi := oi) (oo := oo) (ln := ln) (lp := lp) (mk := mk) (tm := tm) (tk := tk) (k := k) (p0 := p0) (p1 := p1) (p2 := p2) (p3 := p3) (p4 := p4) (p5 := p5) (p6 := p6) (p7 := p7) (t0 := t0) (t1 := t1) (t2 := t2) (t3 := t3) (t4 := t4) (t5 := t5) (t6 := t6) (t7 := t7) (n0 := n0) (n1 := n1) (n2 := n2) (n3 := n3) (n4 := n4) (n5 := n5) (u0 := u0) (u1 := u1) (u2 := u2) (u3 := u3) (u4 := u4) (u5 := u5) (e1 := e1) (e2 := e2) (fa := fa) (cd := cd) (Q := _) (E := E) (B := B) (XK := XK) (T := T) (dk := dk) (dp := dp) (dm := dm) (dn := dn) (k1 := k1) (k7 := k7) (hmk := mark_len hmk) (hm2 := mark_len2 hmk) (hpx := hpx) (hlp := hne5 (lp, _) (.tail _ (.tail _ (.tail _ (.tail _ (.head _)))))) (F := F2) (N := N2) (hret := ?_)))
  intro h3 tk3 lw tw0 tw1 e3 hlw F3 N3
  dsimp only
  refine execsC_cons (wpC_of (o3 (dw := dw) (w := w) (loose := loose) (mean := mean) (mg := mg) (mb := mb) (h₀ := h₀) (L := L) (cn := cn) (cm := cm) (cp := cp) (ck := ck) (oi := oi) (oo := oo) (ln := ln) (lp := lp) (mk := mk) (tm := tm) (tk := tk) (k := k) (p0 := p0) (p1 := p1) (p2 := p2) (p3 := p3) (p4 := p4) (p5 := p5) (p6 := p6) (p7 := p7) (t0 := t0) (t1 := t1) (t2 := t2) (t3 := t3) (t4 := t4) (t5 := t5) (t6 := t6) (t7 := t7) (n0 := n0) (n1 := n1) (n2 := n2) (n3 := n3) (n4 := n4) (n5 := n5) (u0 := u0) (u1 := u1) (u2 := u2) (u3 := u3) (u4 := u4) (u5 := u5) (e1 := e1) (e2 := e2) (fa := fa) (cd := cd) (Q := _) (E := E) (B := B) (XK := XK) (T := T) (dk := dk) (dp := dp) (dm := dm) (dn := dn) (k1 := k1) (k7 := k7) (hn4 := hn4) (hn5 := hn5) (F := F3) (N := N3) (hret := ?_)))
  intro h4 tk4 tkd F4 N4
  dsimp only
  refine execsC_cons (o4 (dw := dw) (w := w) (loose := loose) (mean := mean) (mg := mg) (mb := mb) (h₀ := h₀) (L := L) (cn := cn) (cm := cm) (cp := cp) (ck := ck) (oi := oi) (oo := oo) (ln := ln) (lp := lp) (mk := mk) (tm := tm) (tk := tk) (k := k) (p0 := p0) (p1 := p1) (p2 := p2) (p3 := p3) (p4 := p4) (p5 := p5) (p6 := p6) (p7 := p7) (t0 := t0) (t1 := t1) (t2 := t2) (t3 := t3) (t4 := t4) (t5 := t5) (t6 := t6) (t7 := t7) (n0 := n0) (n1 := n1) (n2 := n2) (n3 := n3) (n4 := n4) (n5 := n5) (u0 := u0) (u1 := u1) (u2 := u2) (u3 := u3) (u4 := u4) (u5 := u5) (e1 := e1) (e2 := e2) (fa := fa) (cd := cd) (Q := _) (E := E) (B := B) (XK := XK) (T := T) (dk := dk) (dp := dp) (dm := dm) (dn := dn) (k1 := k1) (k7 := k7) (hX := rfl) (hW0 := Nat.le_trans (whole_len hmk k1 k7 b0.1 b0.2) (by decide)) (hmk := mark_len hmk) (hL := lost_len hmk k1 k7 b0.1 b0.2) (hA := lost_A hmk k1 k7 b0.1 b0.2) (hP := lost_P hmk k1 k7 b0.1 b0.2) (hkd := lost_kd hmk k1 k7 b0.1 b0.2 d0 d1) (F := F4) (N := N4) (hret := ?_))
  intro h5 tk5 F5 N5
  dsimp only
  refine execsC_cons (wpC_of (o5 (dw := dw) (w := w) (loose := loose) (mean := mean) (mg := mg) (mb := mb) (h₀ := h₀) (L := L) (cn := cn) (cm := cm) (cp := cp) (ck := ck) (oi := oi) (oo := oo) (ln := ln) (lp := lp) (mk := mk) (tm := tm) (tk := tk) (k := k) (p0 := p0) (p1 := p1) (p2 := p2) (p3 := p3) (p4 := p4) (p5 := p5) (p6 := p6) (p7 := p7) (t0 := t0) (t1 := t1) (t2 := t2) (t3 := t3) (t4 := t4) (t5 := t5) (t6 := t6) (t7 := t7) (n0 := n0) (n1 := n1) (n2 := n2) (n3 := n3) (n4 := n4) (n5 := n5) (u0 := u0) (u1 := u1) (u2 := u2) (u3 := u3) (u4 := u4) (u5 := u5) (e1 := e1) (e2 := e2) (fa := fa) (cd := cd) (Q := _) (E := E) (B := B) (XK := XK) (T := T) (dk := dk) (dp := dp) (dm := dm) (dn := dn) (k1 := k1) (k7 := k7) (hne := ?_) (hW0 := Nat.le_trans (whole_len hmk k1 k7 b0.1 b0.2) (by decide)) (hW1 := Nat.le_trans (whole_len hmk k1 k7 b1.1 b1.2) (by decide)) (hO0 := whole_out hmk k1 k7 b0.1 b0.2) (hO1 := whole_out hmk k1 k7 b1.1 b1.2) (hA0 := whole_A hmk k1 k7 b0.1 b0.2) (hA1 := whole_A hmk k1 k7 b1.1 b1.2) (F := F5) (N := N5) (hret := ?_)))
  · intro p hp
    rcases List.mem_append.mp (show p ∈ [(L + 1 + 1 + 1 + 1, ck), (L + 1 + 1 + 1, cp), (L + 1 + 1, cm), (L + 1, cn), (lp, listOf #[.int p0 t0, .int p1 t1, .int p2 t2, .int p3 t3, .int p4 t4, .int p5 t5, .int p6 t6, .int p7 t7] e1), (ln, listOf #[.int n0 u0, .int n1 u1, .int n2 u2, .int n3 u3, .int n4 u4, .int n5 u5] e2)] ++ ([_] ++ [(oi, oo)]) from hp) with hp | hp
    · exact hne5 p (List.mem_append_left [(oi, oo)] hp)
    · rcases List.mem_append.mp hp with hp | hp
      · rw [List.mem_singleton.mp hp]; exact hlw
      · exact hne5 p (List.mem_append_right [(L + 1 + 1 + 1 + 1, ck), (L + 1 + 1 + 1, cp), (L + 1 + 1, cm), (L + 1, cn), (lp, listOf #[.int p0 t0, .int p1 t1, .int p2 t2, .int p3 t3, .int p4 t4, .int p5 t5, .int p6 t6, .int p7 t7] e1), (ln, listOf #[.int n0 u0, .int n1 u1, .int n2 u2, .int n3 u3, .int n4 u4, .int n5 u5] e2)] hp)
  intro h6 tk6 cw' lr lx tr0 tr1 tx0 tx1 kr kx dx F6 N6
  dsimp only
  refine execsC_cons (wpC_of (o6 (dw := dx) (w := w) (loose := loose) (mean := mean) (mg := mg) (mb := mb) (h₀ := h₀) (L := L) (cn := cn) (cm := cm) (cp := cp) (ck := ck) (oi := oi) (oo := oo) (ln := ln) (lp := lp) (mk := mk) (tm := tm) (tk := tk) (k := k) (p0 := p0) (p1 := p1) (p2 := p2) (p3 := p3) (p4 := p4) (p5 := p5) (p6 := p6) (p7 := p7) (t0 := t0) (t1 := t1) (t2 := t2) (t3 := t3) (t4 := t4) (t5 := t5) (t6 := t6) (t7 := t7) (n0 := n0) (n1 := n1) (n2 := n2) (n3 := n3) (n4 := n4) (n5 := n5) (u0 := u0) (u1 := u1) (u2 := u2) (u3 := u3) (u4 := u4) (u5 := u5) (e1 := e1) (e2 := e2) (fa := fa) (cd := cd) (Q := _) (E := E) (B := B) (XK := XK) (T := T) (dk := dk) (dp := dp) (dm := dm) (dn := dn) (k1 := k1) (k7 := k7) (hx0 := b0) (F := F6) (N := N6) (hret := ?_)))
  intro h7 tk7 F7 N7
  dsimp only
  refine execsC_cons (wpC_of (o7 (dw := dx) (w := w) (loose := loose) (mean := mean) (mg := mg) (mb := mb) (h₀ := h₀) (L := L) (cn := cn) (cm := cm) (cp := cp) (ck := ck) (oi := oi) (oo := oo) (ln := ln) (lp := lp) (mk := mk) (tm := tm) (tk := tk) (k := k) (p0 := p0) (p1 := p1) (p2 := p2) (p3 := p3) (p4 := p4) (p5 := p5) (p6 := p6) (p7 := p7) (t0 := t0) (t1 := t1) (t2 := t2) (t3 := t3) (t4 := t4) (t5 := t5) (t6 := t6) (t7 := t7) (n0 := n0) (n1 := n1) (n2 := n2) (n3 := n3) (n4 := n4) (n5 := n5) (u0 := u0) (u1 := u1) (u2 := u2) (u3 := u3) (u4 := u4) (u5 := u5) (e1 := e1) (e2 := e2) (fa := fa) (cd := cd) (Q := _) (E := E) (B := B) (XK := XK) (T := T) (dk := dk) (dp := dp) (dm := dm) (dn := dn) (k1 := k1) (k7 := k7) (hip := ints8 ..) (k0 := k0) (k0' := k0') (F := F7) (N := news_drop6 N7) (hret := ?_)))
  intro h8 tk8 lo to0 to1 to2 eo F8 N8
  dsimp only
  refine execsC_cons (wpC_of (o8 (dw := dx) (w := w) (loose := loose) (mean := mean) (mg := mg) (mb := mb) (h₀ := h₀) (L := L) (cn := cn) (cm := cm) (cp := cp) (ck := ck) (oi := oi) (oo := oo) (ln := ln) (lp := lp) (mk := mk) (tm := tm) (tk := tk) (k := k) (p0 := p0) (p1 := p1) (p2 := p2) (p3 := p3) (p4 := p4) (p5 := p5) (p6 := p6) (p7 := p7) (t0 := t0) (t1 := t1) (t2 := t2) (t3 := t3) (t4 := t4) (t5 := t5) (t6 := t6) (t7 := t7) (n0 := n0) (n1 := n1) (n2 := n2) (n3 := n3) (n4 := n4) (n5 := n5) (u0 := u0) (u1 := u1) (u2 := u2) (u3 := u3) (u4 := u4) (u5 := u5) (e1 := e1) (e2 := e2) (fa := fa) (cd := cd) (Q := _) (E := E) (B := B) (XK := XK) (T := T) (dk := dk) (dp := dp) (dm := dm) (dn := dn) (k1 := k1) (k7 := k7) (ho := off_pure hp hcode k1 k7 hn5) (F := F8) (N := N8) (hret := ?_)))
  intro h9 tk9 F9 N9
  dsimp only
  refine execsC_cons (o9 (dw := dx) (w := w) (loose := loose) (mean := mean) (mg := mg) (mb := mb) (h₀ := h₀) (L := L) (cn := cn) (cm := cm) (cp := cp) (ck := ck) (oi := oi) (oo := oo) (ln := ln) (lp := lp) (mk := mk) (tm := tm) (tk := tk) (k := k) (p0 := p0) (p1 := p1) (p2 := p2) (p3 := p3) (p4 := p4) (p5 := p5) (p6 := p6) (p7 := p7) (t0 := t0) (t1 := t1) (t2 := t2) (t3 := t3) (t4 := t4) (t5 := t5) (t6 := t6) (t7 := t7) (n0 := n0) (n1 := n1) (n2 := n2) (n3 := n3) (n4 := n4) (n5 := n5) (u0 := u0) (u1 := u1) (u2 := u2) (u3 := u3) (u4 := u4) (u5 := u5) (e1 := e1) (e2 := e2) (fa := fa) (cd := cd) (Q := _) (E := E) (B := B) (XK := XK) (T := T) (dk := dk) (dp := dp) (dm := dm) (dn := dn) (k1 := k1) (k7 := k7) (hip := ints8 ..) (k0 := k0) (k0' := k0') (hleft := left_pure hp hcode k1 k7) (F := F9) (N := news_drop8 N9) (hret := ?_))
  intro h10 tk10 m' F10 N10
  dsimp only
  exact wpC_of (wpAny_execs_nil (hret _ _ _ _ _ dx F10 N10))
end Mine
end

section
open PySem PySem.W PyProof.Rows PySem.Calls
namespace Mine
theorem len6_nums_ok {prog : Program} {w : World} {A : Around} {E : Value → Shared → Prop} {s : Shared} {l : Addr} {ws : List Value} {ns : List Int} {Q : Value → Shared → Prop} (hl : s.heap.IsList l ws.toArray) (hi : IntsAre ws (ns.take (Int.toNat 6))) (h : Q (.int ((ns.take (Int.toNat 6)).length : Int) (s.toks + 1)) { s with toks := s.toks + 1 + 1 }) :
    wpAny (model prog w) A (call (.builtin "len") [.ref l]) Q E s := by
  have e : ws.toArray.size = (ns.take (Int.toNat 6)).length := by rw [List.size_toArray]; exact hi.length
  have e6 : (ns.take (Int.toNat 6)).length ≤ 6 := by
    rw [List.length_take]
    exact Nat.min_le_left _ _
  refine len_list hl ?_ (by rw [e]; exact h)
  rw [e]
  have : (2 : Int) ^ 63 = 9223372036854775808 := by decide
  omega
theorem sz12_nums_ok {ws : List Value} {a b : List Int} (h : IntsAre ws (List.take (Int.toNat 6) a ++ List.drop ((b.length : Int)).toNat [21, 10, 4, 9, 2, 4])) : ws.toArray.size ≤ sizeLine := by
  have e := h.length
  rw [List.size_toArray, e, sizeLine_eq, List.length_append, List.length_take, List.length_drop]
  have : (Int.toNat 6) = 6 := rfl
  simp only [List.length_cons, List.length_nil]
  omega
theorem off_ne_nums_ok {D a : Addr} {o : Obj} : ∀ {l : List (Addr × Obj)}, LCg.Off1 D l → (a, o) ∈ l → D ≠ a
  | _ :: _, h, hm => by
    cases hm with
    | head => exact Ne.symm h.1
    | tail _ hm => exact off_ne_nums_ok h.2 hm
theorem off_all_nums_ok {D : Addr} {l : List (Addr × Obj)} (h : LCg.Off1 D l) (p : Addr × Obj) (hm : p ∈ l) : D ≠ p.1 := off_ne_nums_ok (o := p.2) h hm
theorem drop_lo_nums_ok {n : Nat} : (0 : Int) ≤ (n : Int) := Int.natCast_nonneg _
set_option maxRecDepth 100000 in
set_option maxHeartbeats 8000000 in
set_option rowWalk.seconds 0 in
theorem nums_ok (w : World) (loose mean mg mb) (news : List (Addr × Obj)) (sa : Addr) (vs : List Value) (ns : List Int) (hsi : IntsAre vs ns) (hsn : ns.length ≤ 63) :
  ∀ (dp un : Nat) (gd : Option (List Code)) (cn : Str) (cs : Scope) (a : Addr) (ccd : Value) (cl : List (Str × Addr)) (outer : List Env) (A₀ : Around) (base h₀ : Heap) (L : Addr) (m : Str → Option Value) (s : Shared) (Q E : Value → Shared → Prop),
    Below A₀ base outer h₀ → Fr h₀ L s.heap m → (Mine.hd.heap_39 w.params).In h₀ → News h₀ L s.heap news → Top Mine.hd.view_39 loose mean mg mb h₀ → cs.kind = .function → base.IsList sa vs.toArray →
    dp + 1 < recursionLimit → un + 8 < cLine →
    (∀ (x : Addr) (ys : List Value) (h' : Heap) (tk' : Nat), Fr h₀ L h' m → News h₀ L h' ((x, LCg.lst ys) :: news) → (∀ p ∈ news, x ≠ p.1) → IntsAre ys (List.map (fun n => n.fmod (10 ^ Int.toNat 6)) (List.take (Int.toNat 6) ns ++ List.drop (((List.take (Int.toNat 6) ns).length : Int)).toNat [21, 10, 4, 9, 2, 4])) → Q (.ref x) { s with heap := h', toks := tk' }) →
      wpAny (model PySem.Challenge.rw_rl0004_01.row.prog w) (ktrTop dp un gd cn cs L a ccd cl outer) (call (.ref 77) [.ref sa]) Q E s := by
  k_fill
  intros
  rename_i hret
  refine wpAny_call ?_
  k_dflt cell_enter
  k_with_none
  (k_with "call builtin:len" => (k_here; refine' len6_nums_ok (by exact News.isList (by k_asm) (by k_mem)) (by assumption) ?_))
  (k_with "eval ListComp" => (k_here; k_dflt (refine LCg.ListComp_U (F₀ := by k_asm) (by with_unfolding_all rfl) (by decide) (by rfl) (by decide) (by rfl) ?_)))
  (k_with "CompSrc" => (k_here; k_dflt (refine LCg.CompSrc.ledger (by rfl) (by k_asm) (by k_asm) (by k_mem) (by exact sz12_nums_ok (by assumption)) ?_; intro g'; (refine' kcf_list _ (by assumption) (fun k' t' I' oI' C' oC' D' m' ys' h' tk' E' hk' hC' hx' F' N' off' ne' hMark' => ?_) ?_); kcf_last)))
  (k_with "CompEnd" => ((with_reducible rename LCg.Off3 _ _ _ _ => off9); (with_reducible rename News _ _ _ (List.cons (_, _) (List.cons (_, _) (List.cons (_, LCg.lst _) _))) => N9); refine LCg.CompEnd.intro (by assumption) N9 _ (fun _ hp => hp) off9 (by lcg_src) ?_))
  (k_with "FinE" => ((unfold LCg.FinE); intro D' h' tk' F' N' o1'; (try simp only [List.nil_append, List.cons_append] at N'); (try dsimp only)))
  (k_with "subscriptTail Name Slice ref ref" => (k_here; k_dflt (refine' kmk_slice_ints (s := ⟨_, _, _, _, _⟩) (by k_asm) (by k_asm) (by exact Fr.lst (by k_asm) (by k_asm)) (by kmk_part) (by kmk_part) (by assumption) (by exact kmk_upto (by assumption) (by decide)) (by exact rfl) ?_ (by with_unfolding_all rfl) (by kmk_pure) (by exact kmk_sz (by assumption) (by rw [sizeLine_eq]; omega))); intro D' ws' h' F' N' l1 hI' hC' hL'; clear hC' hL'; (try dsimp only)))
  (k_with "subscriptTail Name Slice ref ref" => (k_here; k_dflt (refine' kmk_slice_ints (s := ⟨_, _, _, _, _⟩) (by k_asm) (by k_asm) (by exact News.isList (by k_asm) (by k_mem)) (by kmk_part) (by kmk_part) (by exact .cons _ _ (.cons _ _ (.cons _ _ (.cons _ _ (.cons _ _ (.cons _ _ .nil)))))) (by exact kmk_from (.cons _ _ (.cons _ _ (.cons _ _ (.cons _ _ (.cons _ _ (.cons _ _ .nil)))))) drop_lo_nums_ok) (by exact rfl) ?_ (by with_unfolding_all rfl) (by kmk_pure) (by exact Nat.le_of_ble_eq_true rfl)); intro D' ws' h' F' N' l1 hI' hC' hL'; clear hC' hL'; (try dsimp only)))
  k_steps
  (rename LCg.Off1 _ _ => o9)
  (rename IntsAre _ (List.map _ _) => hi9)
  refine' hret _ _ _ _ ?f ?n ?o hi9
  case f => assumption
  case n =>
    rename News _ _ _ _ => N9
    intro p hp
    rcases List.mem_cons.mp hp with rfl | hp
    · have z := N9 _ (.head _)
      exact z
    · exact N9 _ (by repeat (first | exact hp | refine List.mem_cons_of_mem _ ?_))
  case o =>
    intro p hp
    exact off_all_nums_ok o9 _ (by repeat (first | exact hp | refine List.mem_cons_of_mem _ ?_))
end Mine
end

section
open PySem PySem.W PyProof.Rows PySem.Calls
namespace Mine
theorem nums_use_s0 {w : World} {loose : List Str} {mean : ExcName → Option Value} {mg mb : Str → Option Value} {news : List (Addr × Obj)} {nm : Str} {cs : Scope} {fa : Addr} {ccd : Value} {base h₀ : Heap} {L : Addr} {mm : Str → Option Value} {s : Shared} {Q E : Value → Shared → Prop} {sa : Addr} {vs : List Value} {ns : List Int} (hsi : IntsAre vs ns) (hsn : ns.length ≤ 63) (hl : base.IsList sa vs.toArray) (B : Below callerA base [] h₀) (F : Fr h₀ L s.heap mm) (XK : (Mine.hd.heap_39 w.params).In h₀) (N : News h₀ L s.heap news) (T : Top Mine.hd.view_39 loose mean mg mb h₀) (hk : cs.kind = .function)
    (hret : ∀ (x : Addr) (ys : List Value) (h' : Heap) (tk' : Nat), Fr h₀ L h' mm → News h₀ L h' ((x, LCg.lst ys) :: news) → (∀ p ∈ news, x ≠ p.1) → IntsAre ys (List.map (fun n => n.fmod (10 ^ Int.toNat 6)) (List.take (Int.toNat 6) ns ++ List.drop (((List.take (Int.toNat 6) ns).length : Int)).toNat [21, 10, 4, 9, 2, 4])) → Q (.ref x) { s with heap := h', toks := tk' }) :
    wpAny (model PySem.Challenge.rw_rl0004_01.row.prog w) (callerA.deeper (envOfC nm cs L fa ccd)) (call (.ref 77) [.ref sa]) Q E s :=
  nums_ok w loose mean mg mb news sa vs ns hsi hsn _ _ _ nm cs fa ccd _ [] callerA base h₀ L mm s Q E B F XK N T hk hl (by decide) (by decide) hret
set_option maxRecDepth 100000 in
set_option maxHeartbeats 8000000 in
set_option rowWalk.seconds 0 in
theorem s0 (w : World) (loose mean mg mb) (h₀ : Heap) (L fa : Addr) (cd : Value) (m : Str → Option Value) (s : Shared) (Q : Flow → Shared → Prop) (E : Value → Shared → Prop)
    (sa : Addr) (vs : List Value) (ns : List Int) (c1 c2 c3 c4 c5 : Obj)
    (B : Below callerA h₀ [] h₀) (XK : (Mine.hd.heap_39 w.params).In h₀) (T : Top Mine.hd.view_39 loose mean mg mb h₀)
    (hsl : h₀.IsList sa vs.toArray) (hsi : IntsAre vs ns) (hsn : ns.length ≤ 63) (d1 : c1.data = .cell none)
    (F : Fr h₀ L s.heap (fun y => if y = Str.ofString "script" then some (.ref sa) else m y)) (N : News h₀ L s.heap ((L + 1 + 1 + 1 + 1 + 1, c5) :: (L + 1 + 1 + 1 + 1, c4) :: (L + 1 + 1 + 1, c3) :: (L + 1 + 1, c2) :: (L + 1, c1) :: []))
    (hret : ∀ (h' : Heap) (tk' : Nat) (c1' : Obj) (ln : Addr) (ys : List Value), c1'.data = .cell (some (.ref ln)) → (∀ p ∈ ((L + 1 + 1 + 1 + 1 + 1, c5) :: (L + 1 + 1 + 1 + 1, c4) :: (L + 1 + 1 + 1, c3) :: (L + 1 + 1, c2) :: (L + 1, c1) :: [] : List (Addr × Obj)), ln ≠ p.1) → IntsAre ys (List.map (fun n => n.fmod (10 ^ Int.toNat 6)) (List.take (Int.toNat 6) ns ++ List.drop (((List.take (Int.toNat 6) ns).length : Int)).toNat [21, 10, 4, 9, 2, 4])) → Fr h₀ L h' (fun y => if y = Str.ofString "script" then some (.ref sa) else m y) → News h₀ L h' ((L + 1 + 1 + 1 + 1 + 1, c5) :: (L + 1 + 1 + 1 + 1, c4) :: (L + 1 + 1 + 1, c3) :: (L + 1 + 1, c2) :: (L + 1, c1') :: [(ln, LCg.lst ys)]) → Q .next { s with heap := h', toks := tk' }) :
    wpAny (model PySem.Challenge.rw_rl0004_01.row.prog w) (lawA L fa cd) (exec (lawAt 0) (lawEnv L fa cd)) Q E s := by
  revert XK; k_fill; intro XK
  conv in (lawAt 0) => whnf
  dsimp only [lawA, lawEnv]
  have hsc : lawScope = ?sc := by conv => lhs; whnf
  rw [hsc]
  k_with_none
  (k_with "call ref" => (k_here; (with_reducible show wpAny _ _ (call (Value.ref 77) [Value.ref _]) _ _ _); k_dflt (refine' nums_use_s0 ?r1 ?r2 ?r3 ?k1 ?k2 ?k3 ?k4 ?k5 ?kK ?_; (case k1 => k_asm); (case k2 => k_asm); (case k3 => k_asm); (case k4 => k_asm); (case k5 => k_asm); (case r1 => assumption); (case r2 => assumption); (case r3 => assumption); (case kK => exact rfl)); intro x9 ys9 h9 tk9 F9 N9 o9 i9; (try dsimp only); (try k_fold)))
  (k_with "storeName ref" => (k_here; (with_reducible rename (∀ p ∈ _, _ ≠ Prod.fst p) => o8); k_dflt (refine' storeX_C ?F ?N ?c ?U ?d ?_ ?a ?b; (case a => rfl); (case b => rfl); (case F => k_asm); (case N => k_asm); (case c => rfl); (case U => exact UpdF.tail (o8 (_, _) (by k_mem)) (UpdF.tail (by k_ne) (UpdF.tail (by k_ne) (UpdF.tail (by k_ne) (UpdF.tail (by k_ne) (UpdF.head (List.forall_mem_nil _))))))); (case d => k_asm); k_whole; intro h' o' F' N' d'; (try dsimp only at N'))))
  (try k_fold)
  k_steps
  exact hret _ _ _ _ _ (by assumption) (by assumption) (by assumption) (by assumption) (kst_newsOf (by assumption) (by kst_inAny))
end Mine
end

section
open PySem PySem.W PyProof.Rows PySem.Calls
namespace Mine
set_option maxRecDepth 100000 in
set_option maxHeartbeats 8000000 in
set_option rowWalk.seconds 0 in
theorem s1 (w : World) (loose mean mg mb) (h₀ : Heap) (L fa : Addr) (cd : Value) (m : Str → Option Value) (s : Shared) (Q : Flow → Shared → Prop) (E : Value → Shared → Prop)
    (sa : Addr) (vs : List Value) (ns : List Int) (c1 c2 c3 c4 c5 : Obj) (ln : Addr) (n0 n1 n2 n3 n4 n5 : Int) (u0 u1 u2 u3 u4 u5 : Tok) (e2 : Nat)
    (B : Below callerA h₀ [] h₀) (XK : (Mine.hd.heap_39 w.params).In h₀) (T : Top Mine.hd.view_39 loose mean mg mb h₀)
    (hsl : h₀.IsList sa vs.toArray) (hsi : IntsAre vs ns) (hsn : ns.length ≤ 63) (d2 : c2.data = .cell none) (hln : @Ne Nat ln (L + 1 + 1))
    (F : Fr h₀ L s.heap (fun y => if y = Str.ofString "script" then some (.ref sa) else m y)) (N : News h₀ L s.heap ((L + 1 + 1 + 1 + 1 + 1, c5) :: (L + 1 + 1 + 1 + 1, c4) :: (L + 1 + 1 + 1, c3) :: (L + 1 + 1, c2) :: (L + 1, c1) :: [(ln, listOf #[.int n0 u0, .int n1 u1, .int n2 u2, .int n3 u3, .int n4 u4, .int n5 u5] e2)]))
    (hret : ∀ (h' : Heap) (tk' : Nat) (c2' : Obj) (tm : Tok), c2'.data = .cell (some (.str (Txt.item (Str.ofString "|!/.") (ns.sum.fmod 4)) tm)) → Fr h₀ L h' (fun y => if y = Str.ofString "script" then some (.ref sa) else m y) → News h₀ L h' ((L + 1 + 1 + 1 + 1 + 1, c5) :: (L + 1 + 1 + 1 + 1, c4) :: (L + 1 + 1 + 1, c3) :: (L + 1 + 1, c2') :: (L + 1, c1) :: [(ln, listOf #[.int n0 u0, .int n1 u1, .int n2 u2, .int n3 u3, .int n4 u4, .int n5 u5] e2)]) → Q .next { s with heap := h', toks := tk' }) :
    wpAny (model PySem.Challenge.rw_rl0004_01.row.prog w) (lawA L fa cd) (exec (lawAt 1) (lawEnv L fa cd)) Q E s := by
  revert XK; k_fill; intro XK
  conv in (lawAt 1) => whnf
  dsimp only [lawA, lawEnv]
  have hsc : lawScope = ?sc := by conv => lhs; whnf
  rw [hsc]
  k_with_none
  (try k_fold)
  k_steps
  exact hret _ _ _ _ (by assumption) (by assumption) (kst_newsOf (by assumption) (by kst_inAny))
end Mine
end

section
open PySem PySem.W PyProof.Rows PySem.Calls
namespace Mine
theorem ints_to_s2 {ys : List Value} {l l' : List Int} (h : IntsAre ys l) (e : l = l') : IntsAre ys l' := e ▸ h
theorem three_of_s2 {ys : List Value} {x y z : Int} (h : IntsAre ys [x, y, z]) : ∃ a b c, ys = [.int x a, .int y b, .int z c] := by
  cases h with
  | cons _ a h => cases h with
    | cons _ b h => cases h with
      | cons _ c h =>
        cases h
        exact ⟨a, b, c, rfl⟩
set_option maxRecDepth 100000 in
set_option maxHeartbeats 8000000 in
set_option rowWalk.seconds 0 in
theorem s2 (w : World) (loose mean mg mb) (h₀ : Heap) (L fa : Addr) (cd : Value) (m : Str → Option Value) (s : Shared) (Q : Flow → Shared → Prop) (E : Value → Shared → Prop)
    (sa : Addr) (vs : List Value) (ns : List Int) (c1 c2 c3 c4 c5 : Obj) (ln : Addr) (n0 n1 n2 n3 n4 n5 : Int) (u0 u1 u2 u3 u4 u5 : Tok) (e2 : Nat)
    (B : Below callerA h₀ [] h₀) (XK : (Mine.hd.heap_39 w.params).In h₀) (T : Top Mine.hd.view_39 loose mean mg mb h₀)
    (hsl : h₀.IsList sa vs.toArray) (hsi : IntsAre vs ns) (hsn : ns.length ≤ 63)
    (F : Fr h₀ L s.heap (fun y => if y = Str.ofString "script" then some (.ref sa) else m y)) (N : News h₀ L s.heap ((L + 1 + 1 + 1 + 1 + 1, c5) :: (L + 1 + 1 + 1 + 1, c4) :: (L + 1 + 1 + 1, c3) :: (L + 1 + 1, c2) :: (L + 1, c1) :: [(ln, listOf #[.int n0 u0, .int n1 u1, .int n2 u2, .int n3 u3, .int n4 u4, .int n5 u5] e2)]))
    (hret : ∀ (h' : Heap) (tk' : Nat) (ls : Addr) (w0 w1 w2 : Tok) (e4 : Nat), @Ne Nat ls (L + 1 + 1 + 1) → @Ne Nat ls (L + 1 + 1 + 1 + 1) → Fr h₀ L h' (fun y => if y = Str.ofString "singles" then some (.ref ls) else if y = Str.ofString "script" then some (.ref sa) else m y) → News h₀ L h' ((L + 1 + 1 + 1 + 1 + 1, c5) :: (L + 1 + 1 + 1 + 1, c4) :: (L + 1 + 1 + 1, c3) :: (L + 1 + 1, c2) :: (L + 1, c1) :: [(ls, listOf #[.int 1 w0, .int 2 w1, .int 4 w2] e4), (ln, listOf #[.int n0 u0, .int n1 u1, .int n2 u2, .int n3 u3, .int n4 u4, .int n5 u5] e2)]) → Q .next { s with heap := h', toks := tk' }) :
    wpAny (model PySem.Challenge.rw_rl0004_01.row.prog w) (lawA L fa cd) (exec (lawAt 2) (lawEnv L fa cd)) Q E s := by
  revert XK; k_fill; intro XK
  conv in (lawAt 2) => whnf
  dsimp only [lawA, lawEnv]
  have hsc : lawScope = ?sc := by conv => lhs; whnf
  rw [hsc]
  k_with_none
  (k_with "CompEnd" => ((with_reducible rename News _ _ _ (List.cons (_, _) (List.cons (_, _) (List.cons (_, LCg.lst _) _))) => N9); refine LCg.CompEnd.intro (by assumption) N9 _ (fun _ hp => hp) (by first | assumption | (simp only [LCg.Off3, and_true]; assumption)) (by first | lcg_src | assumption) ?_))
  (try k_fold)
  k_dflt (refine LCt.Assign_ListComp_T (F₀ := by k_asm) (by rfl) (by with_unfolding_all rfl) (by with_unfolding_all rfl) (by decide) (by rfl) (by decide) (by rfl) (by rfl) (by rfl) ?_)
  k_steps
  (rename IntsAre _ (List.foldl _ _ _) => hi9)
  obtain ⟨a0, a1, a2, rfl⟩ := three_of_s2 (ints_to_s2 (l' := [1, 2, 4]) hi9 (by decide +kernel))
  (rename (L + 1 + 1 + 1 + 1 + 1 ≠ _) ∧ _ => o9)
  refine' hret _ _ _ _ _ _ _ ?n1 ?n2 ?f ?n
  case f => assumption
  case n => exact kst_newsOf (by assumption) (by kst_inAny)
  case n1 => exact o9.2.2.1.symm
  case n2 => exact o9.2.1.symm
end Mine
end

section
open PySem PySem.W PyProof.Rows PySem.Calls
namespace Mine
theorem ints_to_s3 {ys : List Value} {l l' : List Int} (h : IntsAre ys l) (e : l = l') : IntsAre ys l' := e ▸ h
theorem four_of_s3 {ys : List Value} {x y z u : Int} (h : IntsAre ys [x, y, z, u]) : ∃ a b c d, ys = [.int x a, .int y b, .int z c, .int u d] := by
  cases h with
  | cons _ a h => cases h with
    | cons _ b h => cases h with
      | cons _ c h => cases h with
        | cons _ d h =>
          cases h
          exact ⟨a, b, c, d, rfl⟩
set_option maxRecDepth 100000 in
set_option maxHeartbeats 8000000 in
set_option rowWalk.seconds 0 in
theorem s3 (w : World) (loose mean mg mb) (h₀ : Heap) (L fa : Addr) (cd : Value) (m : Str → Option Value) (s : Shared) (Q : Flow → Shared → Prop) (E : Value → Shared → Prop)
    (sa : Addr) (vs : List Value) (ns : List Int) (c1 c2 c3 c4 c5 : Obj) (ln : Addr) (n0 n1 n2 n3 n4 n5 : Int) (u0 u1 u2 u3 u4 u5 : Tok) (e2 : Nat) (ls : Addr) (w0 w1 w2 : Tok) (e4 : Nat)
    (B : Below callerA h₀ [] h₀) (XK : (Mine.hd.heap_39 w.params).In h₀) (T : Top Mine.hd.view_39 loose mean mg mb h₀)
    (hsl : h₀.IsList sa vs.toArray) (hsi : IntsAre vs ns) (hsn : ns.length ≤ 63)
    (F : Fr h₀ L s.heap (fun y => if y = Str.ofString "singles" then some (.ref ls) else m y)) (N : News h₀ L s.heap ((L + 1 + 1 + 1 + 1 + 1, c5) :: (L + 1 + 1 + 1 + 1, c4) :: (L + 1 + 1 + 1, c3) :: (L + 1 + 1, c2) :: (L + 1, c1) :: [(ls, listOf #[.int 1 w0, .int 2 w1, .int 4 w2] e4), (ln, listOf #[.int n0 u0, .int n1 u1, .int n2 u2, .int n3 u3, .int n4 u4, .int n5 u5] e2)]))
    (hret : ∀ (h' : Heap) (tk' : Nat) (lq : Addr) (z0 z1 z2 z3 : Tok) (e5 : Nat), @Ne Nat lq (L + 1 + 1 + 1) → @Ne Nat lq (L + 1 + 1 + 1 + 1) → Fr h₀ L h' (fun y => if y = Str.ofString "places" then some (.ref lq) else if y = Str.ofString "singles" then some (.ref ls) else m y) → News h₀ L h' ((L + 1 + 1 + 1 + 1 + 1, c5) :: (L + 1 + 1 + 1 + 1, c4) :: (L + 1 + 1 + 1, c3) :: (L + 1 + 1, c2) :: (L + 1, c1) :: [(ls, listOf #[.int 1 w0, .int 2 w1, .int 4 w2] e4), (lq, listOf #[.int 3 z0, .int 5 z1, .int 6 z2, .int 7 z3] e5), (ln, listOf #[.int n0 u0, .int n1 u1, .int n2 u2, .int n3 u3, .int n4 u4, .int n5 u5] e2)]) → Q .next { s with heap := h', toks := tk' }) :
    wpAny (model PySem.Challenge.rw_rl0004_01.row.prog w) (lawA L fa cd) (exec (lawAt 3) (lawEnv L fa cd)) Q E s := by
  revert XK; k_fill; intro XK
  conv in (lawAt 3) => whnf
  dsimp only [lawA, lawEnv]
  have hsc : lawScope = ?sc := by conv => lhs; whnf
  rw [hsc]
  k_with_none
  (k_with "CompEnd" => ((with_reducible rename News _ _ _ (List.cons (_, _) (List.cons (_, _) (List.cons (_, LCg.lst _) _))) => N9); refine LCg.CompEnd.intro (by assumption) N9 _ (fun _ hp => hp) (by first | assumption | (simp only [LCg.Off3, and_true]; assumption)) (by first | lcg_src | assumption) ?_))
  (try k_fold)
  k_dflt (refine LCt.Assign_ListComp_T (F₀ := by k_asm) (by rfl) (by with_unfolding_all rfl) (by with_unfolding_all rfl) (by decide) (by rfl) (by decide) (by rfl) (by rfl) (by rfl) ?_)
  k_steps
  (rename IntsAre _ (List.foldl _ _ _) => hi9)
  obtain ⟨a0, a1, a2, a3, rfl⟩ := four_of_s3 (ints_to_s3 (l' := [3, 5, 6, 7]) hi9 (by decide +kernel))
  (rename (L + 1 + 1 + 1 + 1 + 1 ≠ _) ∧ _ => o9)
  refine' hret _ _ _ _ _ _ _ _ ?n1 ?n2 ?f ?n
  case f => assumption
  case n => exact kst_newsOf (by assumption) (by kst_inAny)
  case n1 => exact o9.2.2.1.symm
  case n2 => exact o9.2.1.symm
end Mine
end

section
open PySem PySem.W PyProof.Rows PySem.Calls
namespace Mine
set_option maxRecDepth 100000 in
set_option maxHeartbeats 8000000 in
set_option rowWalk.seconds 0 in
theorem s4 (w : World) (loose mean mg mb) (h₀ : Heap) (L fa : Addr) (cd : Value) (m : Str → Option Value) (s : Shared) (Q : Flow → Shared → Prop) (E : Value → Shared → Prop)
    (sa : Addr) (vs : List Value) (ns : List Int) (c1 c2 c3 c4 c5 : Obj) (ln : Addr) (n0 n1 n2 n3 n4 n5 : Int) (u0 u1 u2 u3 u4 u5 : Tok) (e2 : Nat) (ls lq : Addr) (w0 w1 w2 z0 z1 z2 z3 : Tok) (e4 e5 : Nat)
    (B : Below callerA h₀ [] h₀) (XK : (Mine.hd.heap_39 w.params).In h₀) (T : Top Mine.hd.view_39 loose mean mg mb h₀)
    (hsl : h₀.IsList sa vs.toArray) (hsi : IntsAre vs ns) (hsn : ns.length ≤ 63)
    (F : Fr h₀ L s.heap (fun y => if y = Str.ofString "places" then some (.ref lq) else if y = Str.ofString "singles" then some (.ref ls) else m y)) (N : News h₀ L s.heap ((L + 1 + 1 + 1 + 1 + 1, c5) :: (L + 1 + 1 + 1 + 1, c4) :: (L + 1 + 1 + 1, c3) :: (L + 1 + 1, c2) :: (L + 1, c1) :: [(ls, listOf #[.int 1 w0, .int 2 w1, .int 4 w2] e4), (lq, listOf #[.int 3 z0, .int 5 z1, .int 6 z2, .int 7 z3] e5), (ln, listOf #[.int n0 u0, .int n1 u1, .int n2 u2, .int n3 u3, .int n4 u4, .int n5 u5] e2)]))
    (hret : ∀ (h' : Heap) (tk' : Nat), Fr h₀ L h' (fun y => if y = Str.ofString "places" then some (.ref lq) else if y = Str.ofString "singles" then some (.ref ls) else m y) → News h₀ L h' ((L + 1 + 1 + 1 + 1 + 1, c5) :: (L + 1 + 1 + 1 + 1, c4) :: (L + 1 + 1 + 1, c3) :: (L + 1 + 1, c2) :: (L + 1, c1) :: [(ls, listOf #[.int 1 w0, .int 2 w1, .int 4 w2] e4), (lq, listOf #[.int 3 z0, .int 5 z1, .int 6 z2, .int 7 z3] e5), (ln, listOf #[.int n0 u0, .int n1 u1, .int n2 u2, .int n3 u3, .int n4 u4, .int n5 u5] e2)]) → Q .next { s with heap := h', toks := tk' }) :
    wpAny (model PySem.Challenge.rw_rl0004_01.row.prog w) (lawA L fa cd) (exec (lawAt 4) (lawEnv L fa cd)) Q E s := by
  revert XK; k_fill; intro XK
  conv in (lawAt 4) => whnf
  dsimp only [lawA, lawEnv]
  have hsc : lawScope = ?sc := by conv => lhs; whnf
  rw [hsc]
  k_with_none
  (try k_fold)
  k_steps
  exact hret _ _ (by assumption) (kst_newsOf (by assumption) (by kst_inAny))
end Mine
end

section
open PySem PySem.W PyProof.Rows PySem.Calls
namespace Mine
set_option maxRecDepth 100000 in
set_option maxHeartbeats 8000000 in
set_option rowWalk.seconds 0 in
theorem s5 (w : World) (loose mean mg mb) (h₀ : Heap) (L fa : Addr) (cd : Value) (m : Str → Option Value) (s : Shared) (Q : Flow → Shared → Prop) (E : Value → Shared → Prop)
    (sa : Addr) (vs : List Value) (ns : List Int) (c1 c2 c3 c4 c5 : Obj) (ln : Addr) (n0 n1 n2 n3 n4 n5 : Int) (u0 u1 u2 u3 u4 u5 : Tok) (e2 : Nat) (ls lq : Addr) (w0 w1 w2 z0 z1 z2 z3 : Tok) (e4 e5 : Nat)
    (B : Below callerA h₀ [] h₀) (XK : (Mine.hd.heap_39 w.params).In h₀) (T : Top Mine.hd.view_39 loose mean mg mb h₀)
    (hsl : h₀.IsList sa vs.toArray) (hsi : IntsAre vs ns) (hsn : ns.length ≤ 63) (d3 : c3.data = .cell none) (hln : @Ne Nat ln (L + 1 + 1 + 1)) (h1 : @Ne Nat ls (L + 1 + 1 + 1)) (h2 : @Ne Nat ls (L + 1 + 1 + 1 + 1)) (h3 : @Ne Nat lq (L + 1 + 1 + 1)) (h4 : @Ne Nat lq (L + 1 + 1 + 1 + 1))
    (F : Fr h₀ L s.heap (fun y => if y = Str.ofString "places" then some (.ref lq) else if y = Str.ofString "singles" then some (.ref ls) else m y)) (N : News h₀ L s.heap ((L + 1 + 1 + 1 + 1 + 1, c5) :: (L + 1 + 1 + 1 + 1, c4) :: (L + 1 + 1 + 1, c3) :: (L + 1 + 1, c2) :: (L + 1, c1) :: [(ls, listOf #[.int 1 w0, .int 2 w1, .int 4 w2] e4), (lq, listOf #[.int 3 z0, .int 5 z1, .int 6 z2, .int 7 z3] e5), (ln, listOf #[.int n0 u0, .int n1 u1, .int n2 u2, .int n3 u3, .int n4 u4, .int n5 u5] e2)]))
    (hret : ∀ (h' : Heap) (tk' : Nat) (c3' : Obj) (lp : Addr) (t0 t1 t2 t3 t4 t5 t6 t7 : Tok) (e1 : Nat), c3'.data = .cell (some (.ref lp)) → @LT.lt Nat _ (L + 1 + 1 + 1 + 1 + 1) lp → @LT.lt Nat _ (ln) lp → @LT.lt Nat _ (ls) lp → @LT.lt Nat _ (lq) lp → Fr h₀ L h' (fun y => if y = Str.ofString "places" then some (.ref lq) else if y = Str.ofString "singles" then some (.ref ls) else m y) → News h₀ L h' ((L + 1 + 1 + 1 + 1 + 1, c5) :: (L + 1 + 1 + 1 + 1, c4) :: (L + 1 + 1 + 1, c3') :: (L + 1 + 1, c2) :: (L + 1, c1) :: [(ls, listOf #[.int 1 w0, .int 2 w1, .int 4 w2] e4), (lq, listOf #[.int 3 z0, .int 5 z1, .int 6 z2, .int 7 z3] e5), (ln, listOf #[.int n0 u0, .int n1 u1, .int n2 u2, .int n3 u3, .int n4 u4, .int n5 u5] e2), (lp, listOf #[.int 0 t0, .int 0 t1, .int 0 t2, .int 0 t3, .int 0 t4, .int 0 t5, .int 0 t6, .int 0 t7] e1)]) → Q .next { s with heap := h', toks := tk' }) :
    wpAny (model PySem.Challenge.rw_rl0004_01.row.prog w) (lawA L fa cd) (exec (lawAt 5) (lawEnv L fa cd)) Q E s := by
  revert XK; k_fill; intro XK
  conv in (lawAt 5) => whnf
  dsimp only [lawA, lawEnv]
  have hsc : lawScope = ?sc := by conv => lhs; whnf
  rw [hsc]
  k_with_none
  (try k_fold)
  k_steps
  exact hret _ _ _ _ _ _ _ _ _ _ _ _ _ (by assumption) (by omega) (by omega) (by omega) (by omega) (by assumption) (kst_newsOf (by assumption) (by kst_inAny))
end Mine
end

section
open PySem PySem.W PyProof.Rows PySem.Calls
namespace Mine
set_option maxRecDepth 100000 in
set_option maxHeartbeats 8000000 in
set_option rowWalk.seconds 0 in
theorem s6 (w : World) (loose mean mg mb) (h₀ : Heap) (L fa : Addr) (cd : Value) (m : Str → Option Value) (s : Shared) (Q : Flow → Shared → Prop) (E : Value → Shared → Prop)
    (sa : Addr) (vs : List Value) (ns : List Int) (c1 c2 c3 c4 c5 : Obj) (ln : Addr) (n0 n1 n2 n3 n4 n5 : Int) (u0 u1 u2 u3 u4 u5 : Tok) (e2 : Nat) (ls lq : Addr) (w0 w1 w2 z0 z1 z2 z3 : Tok) (e4 e5 : Nat) (lp : Addr) (t0 t1 t2 t3 t4 t5 t6 t7 : Tok) (e1 : Nat)
    (B : Below callerA h₀ [] h₀) (XK : (Mine.hd.heap_39 w.params).In h₀) (T : Top Mine.hd.view_39 loose mean mg mb h₀)
    (hsl : h₀.IsList sa vs.toArray) (hsi : IntsAre vs ns) (hsn : ns.length ≤ 63) (d3 : c3.data = .cell (some (.ref lp))) (d4 : c4.data = .cell none) (d1 : c1.data = .cell (some (.ref ln))) (hln : @Ne Nat ln (L + 1 + 1 + 1 + 1)) (h1 : @Ne Nat ls (L + 1 + 1 + 1)) (h2 : @Ne Nat ls (L + 1 + 1 + 1 + 1)) (h3 : @Ne Nat lq (L + 1 + 1 + 1)) (h4 : @Ne Nat lq (L + 1 + 1 + 1 + 1)) (g1 : @LT.lt Nat _ (L + 1 + 1 + 1 + 1 + 1) lp) (g2 : @LT.lt Nat _ (ln) lp) (g3 : @LT.lt Nat _ (ls) lp) (g4 : @LT.lt Nat _ (lq) lp)
    (F : Fr h₀ L s.heap (fun y => if y = Str.ofString "places" then some (.ref lq) else if y = Str.ofString "singles" then some (.ref ls) else m y)) (N : News h₀ L s.heap ((L + 1 + 1 + 1 + 1 + 1, c5) :: (L + 1 + 1 + 1 + 1, c4) :: (L + 1 + 1 + 1, c3) :: (L + 1 + 1, c2) :: (L + 1, c1) :: [(ls, listOf #[.int 1 w0, .int 2 w1, .int 4 w2] e4), (lq, listOf #[.int 3 z0, .int 5 z1, .int 6 z2, .int 7 z3] e5), (ln, listOf #[.int n0 u0, .int n1 u1, .int n2 u2, .int n3 u3, .int n4 u4, .int n5 u5] e2), (lp, listOf #[.int 0 t0, .int 0 t1, .int 0 t2, .int 0 t3, .int 0 t4, .int 0 t5, .int 0 t6, .int 0 t7] e1)]))
    (hret : ∀ (h' : Heap) (tk' : Nat) (c4' : Obj) (v : Option Value) (t3 t5 t6 t7 : Tok), c4'.data = .cell v → Fr h₀ L h' (fun y => if y = Str.ofString "places" then some (.ref lq) else if y = Str.ofString "singles" then some (.ref ls) else m y) → News h₀ L h' ((L + 1 + 1 + 1 + 1 + 1, c5) :: (L + 1 + 1 + 1 + 1, c4') :: (L + 1 + 1 + 1, c3) :: (L + 1 + 1, c2) :: (L + 1, c1) :: [(ls, listOf #[.int 1 w0, .int 2 w1, .int 4 w2] e4), (lq, listOf #[.int 3 z0, .int 5 z1, .int 6 z2, .int 7 z3] e5), (ln, listOf #[.int n0 u0, .int n1 u1, .int n2 u2, .int n3 u3, .int n4 u4, .int n5 u5] e2), (lp, listOf #[.int 0 t0, .int 0 t1, .int 0 t2, .int n0 t3, .int 0 t4, .int n1 t5, .int n2 t6, .int n3 t7] e1)]) → Q .next { s with heap := h', toks := tk' }) :
    wpC (model PySem.Challenge.rw_rl0004_01.row.prog w) (lawA L fa cd) (exec (lawAt 6) (lawEnv L fa cd)) Q E s := by
  revert XK; k_fill; intro XK
  conv in (lawAt 6) => whnf
  dsimp only [lawA, lawEnv]
  have hsc : lawScope = ?sc := by conv => lhs; whnf
  rw [hsc]
  k_with_none
  (try k_fold)
  k_dflt (refine forC ?_ (by intro _; rfl) rfl)
  k_steps
  (rename IsRange _ _ _ _ _ _ _ _ => rg9)
  k_dflt (refine' rangeC (fun i m' led' => m' = (fun y => if y = Str.ofString "places" then some (.ref lq) else if y = Str.ofString "singles" then some (.ref ls) else m y) ∧ ∃ (c4' : Obj) (v : Option Value) (a b c d : Int) (t3 t5 t6 t7 : Tok), led' = ((L + 1 + 1 + 1 + 1 + 1, c5) :: (L + 1 + 1 + 1 + 1, c4') :: (L + 1 + 1 + 1, c3) :: (L + 1 + 1, c2) :: (L + 1, c1) :: [(ls, listOf #[.int 1 w0, .int 2 w1, .int 4 w2] e4), (lq, listOf #[.int 3 z0, .int 5 z1, .int 6 z2, .int 7 z3] e5), (ln, listOf #[.int n0 u0, .int n1 u1, .int n2 u2, .int n3 u3, .int n4 u4, .int n5 u5] e2), (lp, listOf #[.int 0 t0, .int 0 t1, .int 0 t2, .int a t3, .int 0 t4, .int b t5, .int c t6, .int d t7] e1)]) ∧ c4'.data = .cell v ∧ (1 ≤ i → a = n0) ∧ (2 ≤ i → b = n1) ∧ (3 ≤ i → c = n2) ∧ (4 ≤ i → d = n3)) ?hh ?hr ?hs ?hn ?F ?N ?h0 ?turn ?done)
  case hh => exact rfl
  case hr => exact rg9
  case hs => decide
  case hn => exact rangeSize_nat _ _
  case F => k_asm
  case N => k_asm
  case h0 => exact ⟨rfl, _, _, _, _, _, _, _, _, _, _, rfl, by assumption, (by omega), (by omega), (by omega), (by omega)⟩
  case done =>
    intro m9 led9 h9 tk9 hI9 F9 N9
    obtain ⟨hm9, c4', v, a, b, c, d, t3, t5, t6, t7, rfl, d4, q1, q2, q3, q4⟩ := hI9
    subst hm9
    have e1 := q1 (by decide)
    have e2 := q2 (by decide)
    have e3 := q3 (by decide)
    have e4 := q4 (by decide)
    subst e1 e2 e3 e4
    exact hret _ _ _ _ _ _ _ _ d4 F9 N9
  case turn =>
    intro i9 m9 led9 h9 tk9 I9 oI9 t9 hi9 hI9 F9 N9 hne9
    obtain ⟨hm9, c4', v, a, b, c, d, t3, t5, t6, t7, rfl, d4, q1, q2, q3, q4⟩ := hI9
    subst hm9
    have hne4 : @Ne Nat (L + 1 + 1 + 1 + 1) I9 := ne_mem hne9 (by k_mem)
    have hneP : @Ne Nat lp I9 := ne_mem hne9 (by k_mem)
    have hc : i9 = 0 ∨ i9 = 1 ∨ i9 = 2 ∨ i9 = 3 := by
      have : i9 < 4 := hi9
      omega
    clear hi9
    (try k_fold)
    rcases hc with rfl | rfl | rfl | rfl
    all_goals k_steps
    all_goals (refine wpC_of ?_; (try k_fold))
    all_goals k_steps
    · (rename Obj => o9)
      (rename (Obj.data _ = Data.cell _) => d9)
      refine' TurnDone.intro ?led0 ?F0 ?N0 ?hne0 ⟨rfl, o9, ?v0, ?a0, ?b0, ?c0, ?d0, ?t30, ?t50, ?t60, ?t70, rfl, d9, ?q10, ?q20, ?q30, ?q40⟩
      case N0 => exact kst_newsOf (by assumption) (by kst_inAny)
      case F0 => assumption
      case hne0 => exact ne_same hne9 rfl
      case q10 => intro h; first | rfl | exact absurd h (by decide) | exact q1 (by decide)
      case q20 => intro h; first | rfl | exact absurd h (by decide) | exact q2 (by decide)
      case q30 => intro h; first | rfl | exact absurd h (by decide) | exact q3 (by decide)
      case q40 => intro h; first | rfl | exact absurd h (by decide)
    · (rename Obj => o9)
      (rename (Obj.data _ = Data.cell _) => d9)
      refine' TurnDone.intro ?led1 ?F1 ?N1 ?hne1 ⟨rfl, o9, ?v1, ?a1, ?b1, ?c1, ?d1, ?t31, ?t51, ?t61, ?t71, rfl, d9, ?q11, ?q21, ?q31, ?q41⟩
      case N1 => exact kst_newsOf (by assumption) (by kst_inAny)
      case F1 => assumption
      case hne1 => exact ne_same hne9 rfl
      case q11 => intro h; first | rfl | exact absurd h (by decide) | exact q1 (by decide)
      case q21 => intro h; first | rfl | exact absurd h (by decide) | exact q2 (by decide)
      case q31 => intro h; first | rfl | exact absurd h (by decide) | exact q3 (by decide)
      case q41 => intro h; first | rfl | exact absurd h (by decide)
    · (rename Obj => o9)
      (rename (Obj.data _ = Data.cell _) => d9)
      refine' TurnDone.intro ?led2 ?F2 ?N2 ?hne2 ⟨rfl, o9, ?v2, ?a2, ?b2, ?c2, ?d2, ?t32, ?t52, ?t62, ?t72, rfl, d9, ?q12, ?q22, ?q32, ?q42⟩
      case N2 => exact kst_newsOf (by assumption) (by kst_inAny)
      case F2 => assumption
      case hne2 => exact ne_same hne9 rfl
      case q12 => intro h; first | rfl | exact absurd h (by decide) | exact q1 (by decide)
      case q22 => intro h; first | rfl | exact absurd h (by decide) | exact q2 (by decide)
      case q32 => intro h; first | rfl | exact absurd h (by decide) | exact q3 (by decide)
      case q42 => intro h; first | rfl | exact absurd h (by decide)
    · (rename Obj => o9)
      (rename (Obj.data _ = Data.cell _) => d9)
      refine' TurnDone.intro ?led3 ?F3 ?N3 ?hne3 ⟨rfl, o9, ?v3, ?a3, ?b3, ?c3, ?d3, ?t33, ?t53, ?t63, ?t73, rfl, d9, ?q13, ?q23, ?q33, ?q43⟩
      case N3 => exact kst_newsOf (by assumption) (by kst_inAny)
      case F3 => assumption
      case hne3 => exact ne_same hne9 rfl
      case q13 => intro h; first | rfl | exact absurd h (by decide) | exact q1 (by decide)
      case q23 => intro h; first | rfl | exact absurd h (by decide) | exact q2 (by decide)
      case q33 => intro h; first | rfl | exact absurd h (by decide) | exact q3 (by decide)
      case q43 => intro h; first | rfl | exact absurd h (by decide)
end Mine
end

section
open PySem PySem.W PyProof.Rows PySem.Calls
namespace Mine
theorem hb1_s7 : ((Builtin.Int.intBits 1 : Nat) : Int) - 1 = 0 := by decide +kernel
theorem hb2_s7 : ((Builtin.Int.intBits 2 : Nat) : Int) - 1 = 1 := by decide +kernel
theorem hb4_s7 : ((Builtin.Int.intBits 4 : Nat) : Int) - 1 = 2 := by decide +kernel
set_option maxRecDepth 100000 in
set_option maxHeartbeats 8000000 in
set_option rowWalk.seconds 0 in
theorem s7 (w : World) (loose mean mg mb) (h₀ : Heap) (L fa : Addr) (cd : Value) (m : Str → Option Value) (s : Shared) (Q : Flow → Shared → Prop) (E : Value → Shared → Prop)
    (sa : Addr) (vs : List Value) (ns : List Int) (c1 c2 c3 c4 c5 : Obj) (ln : Addr) (n0 n1 n2 n3 n4 n5 : Int) (u0 u1 u2 u3 u4 u5 : Tok) (e2 : Nat) (ls lq : Addr) (w0 w1 w2 z0 z1 z2 z3 : Tok) (e4 e5 : Nat) (lp : Addr) (t0 t1 t2 t3 t4 t5 t6 t7 : Tok) (e1 : Nat)
    (B : Below callerA h₀ [] h₀) (XK : (Mine.hd.heap_39 w.params).In h₀) (T : Top Mine.hd.view_39 loose mean mg mb h₀)
    (hsl : h₀.IsList sa vs.toArray) (hsi : IntsAre vs ns) (hsn : ns.length ≤ 63) (d3 : c3.data = .cell (some (.ref lp))) (hln : @Ne Nat ln (L + 1 + 1 + 1 + 1)) (h1 : @Ne Nat ls (L + 1 + 1 + 1)) (h2 : @Ne Nat ls (L + 1 + 1 + 1 + 1)) (h3 : @Ne Nat lq (L + 1 + 1 + 1)) (h4 : @Ne Nat lq (L + 1 + 1 + 1 + 1)) (g1 : @LT.lt Nat _ (L + 1 + 1 + 1 + 1 + 1) lp) (g2 : @LT.lt Nat _ (ln) lp) (g3 : @LT.lt Nat _ (ls) lp) (g4 : @LT.lt Nat _ (lq) lp)
    (F : Fr h₀ L s.heap (fun y => if y = Str.ofString "places" then some (.ref lq) else if y = Str.ofString "singles" then some (.ref ls) else m y)) (N : News h₀ L s.heap ((L + 1 + 1 + 1 + 1 + 1, c5) :: (L + 1 + 1 + 1 + 1, c4) :: (L + 1 + 1 + 1, c3) :: (L + 1 + 1, c2) :: (L + 1, c1) :: [(ls, listOf #[.int 1 w0, .int 2 w1, .int 4 w2] e4), (lq, listOf #[.int 3 z0, .int 5 z1, .int 6 z2, .int 7 z3] e5), (ln, listOf #[.int n0 u0, .int n1 u1, .int n2 u2, .int n3 u3, .int n4 u4, .int n5 u5] e2), (lp, listOf #[.int 0 t0, .int 0 t1, .int 0 t2, .int n0 t3, .int 0 t4, .int n1 t5, .int n2 t6, .int n3 t7] e1)]))
    (hret : ∀ (h' : Heap) (tk' : Nat) (m' : Str → Option Value) (x1 x2 x4 : Int) (t1 t2 t4 : Tok), x1 = lawSum [0, 0, 0, n0, 0, n1, n2, n3] 0 1 → x2 = lawSum [0, x1, 0, n0, 0, n1, n2, n3] 1 2 → x4 = lawSum [0, x1, x2, n0, 0, n1, n2, n3] 2 4 → Fr h₀ L h' m' → News h₀ L h' ((L + 1 + 1 + 1 + 1 + 1, c5) :: (L + 1 + 1 + 1 + 1, c4) :: (L + 1 + 1 + 1, c3) :: (L + 1 + 1, c2) :: (L + 1, c1) :: [(ls, listOf #[.int 1 w0, .int 2 w1, .int 4 w2] e4), (lq, listOf #[.int 3 z0, .int 5 z1, .int 6 z2, .int 7 z3] e5), (ln, listOf #[.int n0 u0, .int n1 u1, .int n2 u2, .int n3 u3, .int n4 u4, .int n5 u5] e2), (lp, listOf #[.int 0 t0, .int x1 t1, .int x2 t2, .int n0 t3, .int x4 t4, .int n1 t5, .int n2 t6, .int n3 t7] e1)]) → Q .next { s with heap := h', toks := tk' }) :
    wpC (model PySem.Challenge.rw_rl0004_01.row.prog w) (lawA L fa cd) (exec (lawAt 7) (lawEnv L fa cd)) Q E s := by
  revert XK; k_fill; intro XK
  conv in (lawAt 7) => whnf
  dsimp only [lawA, lawEnv]
  have hsc : lawScope = ?sc := by conv => lhs; whnf
  rw [hsc]
  k_with_none
  (k_with "call ref" => (k_here; (with_reducible show wpAny _ _ (call (Value.ref 84) [Value.ref _, Value.int _ _, Value.int _ _]) _ _ _); k_dflt (refine' sum_use ?r1 ?r2 ?r3 ?r4 ?r5 ?k1 ?k2 ?k3 ?k4 ?k5 ?kK ?_; (case k1 => k_asm); (case k2 => k_asm); (case k3 => k_asm); (case k4 => k_asm); (case k5 => k_asm); (case r1 => k_mem); (case r2 => exact .cons _ _ (.cons _ _ (.cons _ _ (.cons _ _ (.cons _ _ (.cons _ _ (.cons _ _ (.cons _ _ .nil)))))))); (case r3 => rfl); (case r4 => decide +kernel); (case r5 => decide +kernel); (case kK => exact rfl)); intro t9 h9 tk9 F9 N9; (try dsimp only); (try k_fold)))
  (try k_fold)
  k_dflt (refine forC ?_ (by intro _; rfl) rfl)
  k_steps
  k_dflt (refine' listC (items := #[.int 1 w0, .int 2 w1, .int 4 w2]) (n := e4) (fun i _ led' => ∃ (x1 x2 x4 : Int) (t1 t2 t4 : Tok), led' = ((L + 1 + 1 + 1 + 1 + 1, c5) :: (L + 1 + 1 + 1 + 1, c4) :: (L + 1 + 1 + 1, c3) :: (L + 1 + 1, c2) :: (L + 1, c1) :: [(ls, listOf #[.int 1 w0, .int 2 w1, .int 4 w2] e4), (lq, listOf #[.int 3 z0, .int 5 z1, .int 6 z2, .int 7 z3] e5), (ln, listOf #[.int n0 u0, .int n1 u1, .int n2 u2, .int n3 u3, .int n4 u4, .int n5 u5] e2), (lp, listOf #[.int 0 t0, .int x1 t1, .int x2 t2, .int n0 t3, .int x4 t4, .int n1 t5, .int n2 t6, .int n3 t7] e1)]) ∧ (i = 0 → x1 = 0) ∧ (i ≤ 1 → x2 = 0) ∧ (i ≤ 2 → x4 = 0) ∧ (1 ≤ i → x1 = lawSum [0, 0, 0, n0, 0, n1, n2, n3] 0 1) ∧ (2 ≤ i → x2 = lawSum [0, x1, 0, n0, 0, n1, n2, n3] 1 2) ∧ (3 ≤ i → x4 = lawSum [0, x1, x2, n0, 0, n1, n2, n3] 2 4)) ?hh ?hm ?F ?N ?h0 ?turn ?done)
  case hh => exact rfl
  case hm =>
    rintro i9 m9 led9 ⟨x1, x2, x4, t1, t2, t4, rfl, _⟩
    k_mem
  case F => k_asm
  case N => k_asm
  case h0 => exact ⟨0, 0, 0, _, _, _, rfl, fun _ => rfl, fun _ => rfl, fun _ => rfl, (by omega), (by omega), (by omega)⟩
  case done =>
    intro m9 led9 h9 tk9 hI9 F9 N9
    obtain ⟨x1, x2, x4, t1, t2, t4, rfl, _, _, _, q1, q2, q3⟩ := hI9
    exact hret _ _ _ _ _ _ _ _ _ (q1 (by show 1 ≤ 3; decide)) (q2 (by show 2 ≤ 3; decide)) (q3 (by show 3 ≤ 3; decide)) F9 N9
  case turn =>
    intro i9 v9 m9 led9 h9 tk9 I9 oI9 hv9 hI9 F9 N9 hne9
    obtain ⟨x1, x2, x4, t1, t2, t4, rfl, z1, z2, z3, q1, q2, q3⟩ := hI9
    have hneP : @Ne Nat lp I9 := ne_mem hne9 (by k_mem)
    have hc : (i9 = 0 ∧ v9 = .int 1 w0) ∨ (i9 = 1 ∧ v9 = .int 2 w1) ∨ (i9 = 2 ∧ v9 = .int 4 w2) := by
      rcases i9 with _ | _ | _ | i9
      · exact .inl ⟨rfl, (Option.some.inj hv9).symm⟩
      · exact .inr (.inl ⟨rfl, (Option.some.inj hv9).symm⟩)
      · exact .inr (.inr ⟨rfl, (Option.some.inj hv9).symm⟩)
      · cases hv9
    clear hv9
    (try k_fold)
    rcases hc with ⟨rfl, rfl⟩ | ⟨rfl, rfl⟩ | ⟨rfl, rfl⟩
    all_goals (try (have y1 := z1 rfl; subst y1))
    all_goals (try (have y2 := z2 (by decide); subst y2))
    all_goals (try (have y3 := z3 (by decide); subst y3))
    all_goals k_steps
    all_goals (refine wpC_of ?_; (try k_fold))
    all_goals k_steps
    · refine' TurnDone.intro ?led0 ?F0 ?N0 ?hne0 ⟨?x10, ?x20, ?x40, ?t10, ?t20, ?t40, rfl, ?z10, ?z20, ?z30, ?q10, ?q20, ?q30⟩
      case N0 => exact kst_newsOf (by assumption) (by kst_inAny)
      case F0 => assumption
      case hne0 => exact ne_same hne9 rfl
      case z10 => intro h; exact absurd h (by decide)
      case z20 => intro h; first | rfl | exact absurd h (by decide)
      case z30 => intro h; first | rfl | exact absurd h (by decide)
      case q10 => intro h; first | exact q1 (by decide) | rw [hb1_s7]
      case q20 => intro h; first | exact absurd h (by decide) | exact q2 (by decide) | rw [hb2_s7]
      case q30 => intro h; first | exact absurd h (by decide) | rw [hb4_s7]
    · refine' TurnDone.intro ?led1 ?F1 ?N1 ?hne1 ⟨?x11, ?x21, ?x41, ?t11, ?t21, ?t41, rfl, ?z11, ?z21, ?z31, ?q11, ?q21, ?q31⟩
      case N1 => exact kst_newsOf (by assumption) (by kst_inAny)
      case F1 => assumption
      case hne1 => exact ne_same hne9 rfl
      case z11 => intro h; exact absurd h (by decide)
      case z21 => intro h; first | rfl | exact absurd h (by decide)
      case z31 => intro h; first | rfl | exact absurd h (by decide)
      case q11 => intro h; first | exact q1 (by decide) | rw [hb1_s7]
      case q21 => intro h; first | exact absurd h (by decide) | exact q2 (by decide) | rw [hb2_s7]
      case q31 => intro h; first | exact absurd h (by decide) | rw [hb4_s7]
    · refine' TurnDone.intro ?led2 ?F2 ?N2 ?hne2 ⟨?x12, ?x22, ?x42, ?t12, ?t22, ?t42, rfl, ?z12, ?z22, ?z32, ?q12, ?q22, ?q32⟩
      case N2 => exact kst_newsOf (by assumption) (by kst_inAny)
      case F2 => assumption
      case hne2 => exact ne_same hne9 rfl
      case z12 => intro h; exact absurd h (by decide)
      case z22 => intro h; first | rfl | exact absurd h (by decide)
      case z32 => intro h; first | rfl | exact absurd h (by decide)
      case q12 => intro h; first | exact q1 (by decide) | rw [hb1_s7]
      case q22 => intro h; first | exact absurd h (by decide) | exact q2 (by decide) | rw [hb2_s7]
      case q32 => intro h; first | exact absurd h (by decide) | rw [hb4_s7]
end Mine
end

section
open PySem PySem.W PyProof.Rows PySem.Calls
namespace Mine
theorem outer_small : Builtin.Range.small 1 8 1 = true := by decide
set_option maxRecDepth 100000 in
set_option maxHeartbeats 8000000 in
set_option rowWalk.seconds 0 in
theorem outer_ok (w : World) (loose mean mg mb) (h₀ : Heap) (L fa : Addr) (cd : Value) (m : Str → Option Value) (s : Shared) (Q : Flow → Shared → Prop) (E : Value → Shared → Prop)
    (cn cm cp ck cw : Obj) (ln lp : Addr) (mk : Str) (tm : Tok) (wv kv : Option Value)
    (p0 p1 p2 p3 p4 p5 p6 p7 : Int) (t0 t1 t2 t3 t4 t5 t6 t7 : Tok) (n0 n1 n2 n3 n4 n5 : Int) (u0 u1 u2 u3 u4 u5 : Tok) (e1 e2 : Nat)
    (B : Below callerA h₀ [] h₀) (XK : (Mine.hd.heap_39 w.params).In h₀) (T : Top Mine.hd.view_39 loose mean mg mb h₀)
    (dw : cw.data = .cell wv) (dk : ck.data = .cell kv) (dp : cp.data = .cell (some (.ref lp))) (dm : cm.data = .cell (some (.str mk tm))) (dn : cn.data = .cell (some (.ref ln)))
    (hp : ∀ x ∈ [p0, p1, p2, p3, p4, p5, p6, p7], 0 ≤ x ∧ x < 1048576) (hn4 : 0 ≤ n4 ∧ n4 < 1000000) (hn5 : 0 ≤ n5 ∧ n5 < 1000000) (hmk : MarkOk mk) (hcode : CodeOk p0 p1 p2 p3 p4 p5 p6 p7)
    (f1 : @Ne Nat ln (L + 1 + 1 + 1 + 1)) (f2 : @Ne Nat ln (L + 1 + 1 + 1 + 1 + 1)) (f3 : @Ne Nat lp (L + 1 + 1 + 1 + 1)) (f4 : @Ne Nat lp (L + 1 + 1 + 1 + 1 + 1))
    (F : Fr h₀ L s.heap m) (N : News h₀ L s.heap ((L + 1 + 1 + 1 + 1 + 1, cw) :: (L + 1 + 1 + 1 + 1, ck) :: (L + 1 + 1 + 1, cp) :: (L + 1 + 1, cm) :: (L + 1, cn) :: (lp, listOf #[.int p0 t0, .int p1 t1, .int p2 t2, .int p3 t3, .int p4 t4, .int p5 t5, .int p6 t6, .int p7 t7] e1) :: [(ln, listOf #[.int n0 u0, .int n1 u1, .int n2 u2, .int n3 u3, .int n4 u4, .int n5 u5] e2)]))
    (hret : ∀ (h' : Heap) (tk' : Nat) (m' : Str → Option Value) (led' : List (Addr × Obj)), Fr h₀ L h' m' → News h₀ L h' led' → Q .next { s with heap := h', toks := tk' }) :
    wpC (model PySem.Challenge.rw_rl0004_01.row.prog w) (lawA L fa cd) (exec (lawAt 8) (lawEnv L fa cd)) Q E s := by
  revert XK; k_fill; intro XK
  conv in (lawAt 8) => whnf
  dsimp only [lawA, lawEnv]
  have hsc : lawScope = ?sc := by conv => lhs; whnf
  rw [hsc]
  k_with_none
  (try k_fold)
  k_dflt (refine forC ?_ (by intro _; rfl) rfl)
  k_steps
  (rename IsRange _ _ _ _ _ _ _ _ => rg9)
  k_dflt (refine' rangeC (fun _ _ led' => ∃ (cw ck : Obj) (wv kv : Option Value), led' = ((L + 1 + 1 + 1 + 1 + 1, cw) :: (L + 1 + 1 + 1 + 1, ck) :: (L + 1 + 1 + 1, cp) :: (L + 1 + 1, cm) :: (L + 1, cn) :: (lp, listOf #[.int p0 t0, .int p1 t1, .int p2 t2, .int p3 t3, .int p4 t4, .int p5 t5, .int p6 t6, .int p7 t7] e1) :: [(ln, listOf #[.int n0 u0, .int n1 u1, .int n2 u2, .int n3 u3, .int n4 u4, .int n5 u5] e2)]) ∧ cw.data = .cell wv ∧ ck.data = .cell kv) ?hh ?hr ?hs ?hn ?F ?N ?h0 ?turn ?done)
  case hh => exact rfl
  case hr => exact rg9
  case hs => exact outer_small
  case hn => exact rangeSize_nat _ _
  case F => k_asm
  case N => k_asm
  case h0 => exact ⟨_, _, _, _, rfl, dw, dk⟩
  case done =>
    intro m9 led9 h9 tk9 hI9 F9 N9
    exact hret _ _ _ _ F9 N9
  case turn =>
    intro i9 m9 led9 h9 tk9 I9 oI9 t9 hi9 hI9 F9 N9 hne9
    obtain ⟨cw9, ck9, wv9, kv9, rfl, dw9, dk9⟩ := hI9
    have g4 : @Ne Nat (L + 1 + 1 + 1 + 1) I9 := ne_mem hne9 (by k_mem)
    have g5 : @Ne Nat (L + 1 + 1 + 1 + 1 + 1) I9 := ne_mem hne9 (by k_mem)
    have j1 : 1 ≤ 1 + (i9 : Int) := by omega
    have j7 : 1 + (i9 : Int) ≤ 7 := by
      have : i9 < 7 := hi9
      omega
    generalize 1 + (i9 : Int) = j at j1 j7 ⊢
    clear hi9
    (try k_fold)
    k_steps
    rename Obj => ok9
    rename (Obj.data _ = Data.cell _) => dk8
    rename News _ _ _ _ => N8
    rename Fr _ _ _ _ => F8
    refine body_ok (fa := fa) (cd := cd) (Q := _) (E := _) (k := j) (tk := t9) (t0 := t0) (t1 := t1) (t2 := t2) (t3 := t3) (t4 := t4) (t5 := t5) (t6 := t6) (t7 := t7) (u0 := u0) (u1 := u1) (u2 := u2) (u3 := u3) (u4 := u4) (u5 := u5) (n0 := n0) (n1 := n1) (n2 := n2) (n3 := n3) (e1 := e1) (e2 := e2) (oi := I9) (oo := oI9) (B := B) (XK := XK) (T := T) (dw := dw9) (dk := dk8) (dp := dp) (dm := dm) (dn := dn) (k1 := j1) (k7 := j7) (hne5 := ?_) (hp := hp) (hn4 := hn4) (hn5 := hn5) (hmk := hmk) (hcode := hcode) (F := F8) (N := ?_) (hret := ?_)
    · refine List.forall_mem_cons.mpr ⟨by k_ne, List.forall_mem_cons.mpr ⟨by k_ne, List.forall_mem_cons.mpr ⟨by k_ne, List.forall_mem_cons.mpr ⟨by k_ne, List.forall_mem_cons.mpr ⟨f4, List.forall_mem_cons.mpr ⟨f2, List.forall_mem_cons.mpr ⟨g5.symm, List.forall_mem_nil _⟩⟩⟩⟩⟩⟩⟩
    · exact kst_newsOf N8 (by kst_inAny)
    · intro h7 tk7 m7 cw7 lx7 dw7 F7 N7
      exact TurnDone.intro ((L + 1 + 1 + 1 + 1 + 1, cw7) :: (L + 1 + 1 + 1 + 1, ok9) :: (L + 1 + 1 + 1, cp) :: (L + 1 + 1, cm) :: (L + 1, cn) :: (lp, listOf #[.int p0 t0, .int p1 t1, .int p2 t2, .int p3 t3, .int p4 t4, .int p5 t5, .int p6 t6, .int p7 t7] e1) :: [(ln, listOf #[.int n0 u0, .int n1 u1, .int n2 u2, .int n3 u3, .int n4 u4, .int n5 u5] e2)]) F7 (kst_newsOf N7 (by kst_inAny)) (ne_same hne9 rfl) ⟨cw7, ok9, _, _, rfl, dw7, dk8⟩
end Mine
end

section
open PySem PySem.W PyProof.Rows PySem.Calls
namespace Mine
theorem six_of {ys : List Value} {l : List Int} {P : Int → Prop} (h : IntsAre ys l) (hl : l.length = 6) (hP : ∀ x ∈ l, P x) : ∃ (n0 n1 n2 n3 n4 n5 : Int) (u0 u1 u2 u3 u4 u5 : Tok), ys = [.int n0 u0, .int n1 u1, .int n2 u2, .int n3 u3, .int n4 u4, .int n5 u5] ∧ (P n0 ∧ P n1 ∧ P n2 ∧ P n3 ∧ P n4 ∧ P n5) := by
  cases h with
  | nil => cases hl
  | cons a ta h => cases h with
    | nil => cases hl
    | cons b tb h => cases h with
      | nil => cases hl
      | cons c tc h => cases h with
        | nil => cases hl
        | cons d td h => cases h with
          | nil => cases hl
          | cons e te h => cases h with
            | nil => cases hl
            | cons f tf h => cases h with
              | cons g tg h => simp at hl
              | nil => exact ⟨a, b, c, d, e, f, ta, tb, tc, td, te, tf, rfl, hP _ (by simp), hP _ (by simp), hP _ (by simp), hP _ (by simp), hP _ (by simp), hP _ (by simp)⟩
theorem nums_six {ys : List Value} {ns : List Int} (h : IntsAre ys (List.map (fun n => n.fmod (10 ^ Int.toNat 6)) (List.take (Int.toNat 6) ns ++ List.drop (((List.take (Int.toNat 6) ns).length : Int)).toNat [21, 10, 4, 9, 2, 4]))) :
    ∃ (n0 n1 n2 n3 n4 n5 : Int) (u0 u1 u2 u3 u4 u5 : Tok), ys = [.int n0 u0, .int n1 u1, .int n2 u2, .int n3 u3, .int n4 u4, .int n5 u5] ∧ ((0 ≤ n0 ∧ n0 < 1000000) ∧ (0 ≤ n1 ∧ n1 < 1000000) ∧ (0 ≤ n2 ∧ n2 < 1000000) ∧ (0 ≤ n3 ∧ n3 < 1000000) ∧ (0 ≤ n4 ∧ n4 < 1000000) ∧ (0 ≤ n5 ∧ n5 < 1000000)) := by
  refine six_of (P := fun x => 0 ≤ x ∧ x < 1000000) h ?_ ?_
  · rw [List.length_map, List.length_append, List.length_drop, List.length_take]
    have : Int.toNat 6 = 6 := rfl
    simp only [List.length_cons, List.length_nil, this]
    omega
  · intro x hx
    obtain ⟨n, _, rfl⟩ := List.mem_map.mp hx
    have e : (10 : Int) ^ Int.toNat 6 = 1000000 := by decide
    rw [e]
    exact ⟨Int.fmod_nonneg_of_pos _ (by decide), Int.fmod_lt_of_pos _ (by decide)⟩
theorem mark_ok {n : Int} : MarkOk (Txt.item (Str.ofString "|!/.") (n.fmod 4)) := by
  have h0 : 0 ≤ n.fmod 4 := Int.fmod_nonneg_of_pos _ (by decide)
  have h1 : n.fmod 4 < 4 := Int.fmod_lt_of_pos _ (by decide)
  have hc : n.fmod 4 = 0 ∨ n.fmod 4 = 1 ∨ n.fmod 4 = 2 ∨ n.fmod 4 = 3 := by omega
  rcases hc with h | h | h | h <;> rw [h]
  · exact ⟨124, by decide +kernel, by decide⟩
  · exact ⟨33, by decide +kernel, by decide⟩
  · exact ⟨47, by decide +kernel, by decide⟩
  · exact ⟨46, by decide +kernel, by decide⟩
theorem ret_true {M : Model} {A : Around} {env : Env} {s : Shared} {Q : Flow → Shared → Prop} {E : Value → Shared → Prop} : ∀ {st : Stmt}, (match st with | .Return (some (.Constant (.bool true) _ _)) _ => True | _ => False) → Q (.ret (.bool true)) s → wpAny M A (exec st env) Q E s := by
  intro st hst h
  split at hst
  · exact wpAny_Return_some (wpAny_pure h)
  · exact hst.elim
theorem law_eq : lawBody = [lawAt 0, lawAt 1, lawAt 2, lawAt 3, lawAt 4, lawAt 5, lawAt 6, lawAt 7, lawAt 8, lawAt 9] := rfl
set_option maxRecDepth 100000 in
set_option maxHeartbeats 8000000 in
set_option rowWalk.seconds 0 in
theorem law_ok (w : World) (loose mean mg mb) (h₀ : Heap) (L fa : Addr) (cd : Value) (m : Str → Option Value) (s : Shared) (Q : Flow → Shared → Prop) (E : Value → Shared → Prop)
    (sa : Addr) (vs : List Value) (ns : List Int) (c1 c2 c3 c4 c5 : Obj)
    (B : Below callerA h₀ [] h₀) (XK : (Mine.hd.heap_39 w.params).In h₀) (T : Top Mine.hd.view_39 loose mean mg mb h₀)
    (hsl : h₀.IsList sa vs.toArray) (hsi : IntsAre vs ns) (hsn : ns.length ≤ 63)
    (d1 : c1.data = .cell none) (d2 : c2.data = .cell none) (d3 : c3.data = .cell none) (d4 : c4.data = .cell none) (d5 : c5.data = .cell none)
    (F : Fr h₀ L s.heap (fun y => if y = Str.ofString "script" then some (.ref sa) else m y)) (N : News h₀ L s.heap ((L + 1 + 1 + 1 + 1 + 1, c5) :: (L + 1 + 1 + 1 + 1, c4) :: (L + 1 + 1 + 1, c3) :: (L + 1 + 1, c2) :: (L + 1, c1) :: []))
    (hret : ∀ (h' : Heap) (tk' : Nat) (m' : Str → Option Value) (led' : List (Addr × Obj)), Fr h₀ L h' m' → News h₀ L h' led' → Q (.ret (.bool true)) { s with heap := h', toks := tk' }) :
    wpC (model PySem.Challenge.rw_rl0004_01.row.prog w) (lawA L fa cd) (execs lawBody (lawEnv L fa cd)) Q E s := by
  rw [law_eq]
  refine execsC_cons (wpC_of (s0 (fa := fa) (cd := cd) (Q := _) (E := E) (ns := ns) (B := B) (XK := XK) (T := T) (hsl := hsl) (hsi := hsi) (hsn := hsn) (d1 := d1) (F := F) (N := N) (hret := ?_)))
  intro h1 tk1 c1' ln ys d1 hx hi F1 N1
  dsimp only
  obtain ⟨n0, n1, n2, n3, n4, n5, u0, u1, u2, u3, u4, u5, rfl, b0, b1, b2, b3, b4, b5⟩ := nums_six hi
  have x5 := hx (_, c5) (.head _)
  have x4 := hx (_, c4) (.tail _ (.head _))
  have x3 := hx (_, c3) (.tail _ (.tail _ (.head _)))
  have x2 := hx (_, c2) (.tail _ (.tail _ (.tail _ (.head _))))
  clear hi hx
  refine execsC_cons (wpC_of (s1 (fa := fa) (cd := cd) (Q := _) (E := E) (ns := ns) (B := B) (XK := XK) (T := T) (hsl := hsl) (hsi := hsi) (hsn := hsn) (d2 := d2) (hln := x2) (F := F1) (N := N1) (hret := ?_)))
  intro h2 tk2 c2' tm d2 F2 N2
  dsimp only
  refine execsC_cons (wpC_of (s2 (fa := fa) (cd := cd) (Q := _) (E := E) (ns := ns) (B := B) (XK := XK) (T := T) (hsl := hsl) (hsi := hsi) (hsn := hsn) (F := F2) (N := N2) (hret := ?_)))
  intro h3 tk3 ls w0 w1 w2 e4 y1 y2 F3 N3
  dsimp only
  refine execsC_cons (wpC_of (s3 (fa := fa) (cd := cd) (Q := _) (E := E) (ns := ns) (B := B) (XK := XK) (T := T) (hsl := hsl) (hsi := hsi) (hsn := hsn) (F := F3) (N := N3) (hret := ?_)))
  intro h4 tk4 lq z0 z1 z2 z3 e5 y3 y4 F4 N4
  dsimp only
  refine execsC_cons (wpC_of (s4 (fa := fa) (cd := cd) (Q := _) (E := E) (ns := ns) (B := B) (XK := XK) (T := T) (hsl := hsl) (hsi := hsi) (hsn := hsn) (F := F4) (N := N4) (hret := ?_)))
  intro h5 tk5 F5 N5
  dsimp only
  refine execsC_cons (wpC_of (s5 (fa := fa) (cd := cd) (Q := _) (E := E) (ns := ns) (B := B) (XK := XK) (T := T) (hsl := hsl) (hsi := hsi) (hsn := hsn) (d3 := d3) (hln := x3) (h1 := y1) (h2 := y2) (h3 := y3) (h4 := y4) (F := F5) (N := N5) (hret := ?_)))
  intro h6 tk6 c3' lp t0 t1 t2 t3 t4 t5 t6 t7 e1 d3 g1 g2 g3 g4 F6 N6
  dsimp only
  refine execsC_cons (s6 (fa := fa) (cd := cd) (Q := _) (E := E) (ns := ns) (B := B) (XK := XK) (T := T) (hsl := hsl) (hsi := hsi) (hsn := hsn) (d3 := d3) (d4 := d4) (d1 := d1) (hln := x4) (h1 := y1) (h2 := y2) (h3 := y3) (h4 := y4) (g1 := g1) (g2 := g2) (g3 := g3) (g4 := g4) (F := F6) (N := N6) (hret := ?_))
  intro h7 tk7 c4' v4 t3' t5' t6' t7' d4 F7 N7
  dsimp only
  refine execsC_cons (s7 (fa := fa) (cd := cd) (Q := _) (E := E) (ns := ns) (B := B) (XK := XK) (T := T) (hsl := hsl) (hsi := hsi) (hsn := hsn) (d3 := d3) (hln := x4) (h1 := y1) (h2 := y2) (h3 := y3) (h4 := y4) (g1 := g1) (g2 := g2) (g3 := g3) (g4 := g4) (F := F7) (N := N7) (hret := ?_))
  intro h8 tk8 m8 x1 x2' x4' t1' t2' t4' q1 q2 q4 F8 N8
  dsimp only
  refine execsC_cons (outer_ok (fa := fa) (cd := cd) (Q := _) (E := E) (B := B) (XK := XK) (T := T) (dw := d5) (dk := d4) (dp := d3) (dm := d2) (dn := d1) (p0 := 0) (p1 := x1) (p2 := x2') (p3 := n0) (p4 := x4') (p5 := n1) (p6 := n2) (p7 := n3) (t0 := t0) (t1 := t1') (t2 := t2') (t3 := t3') (t4 := t4') (t5 := t5') (t6 := t6') (t7 := t7') (n0 := n0) (n1 := n1) (n2 := n2) (n3 := n3) (n4 := n4) (n5 := n5) (u0 := u0) (u1 := u1) (u2 := u2) (u3 := u3) (u4 := u4) (u5 := u5) (e1 := e1) (e2 := 6) (hp := code_bnd b0 b1 b2 b3 ⟨rfl, q1, q2, q4⟩) (hn4 := b4) (hn5 := b5) (hmk := mark_ok) (hcode := ⟨rfl, q1, q2, q4⟩) (f1 := x4) (f2 := x5) (f3 := ?_) (f4 := ?_) (F := F8) (N := kst_newsOf N8 (by kst_inAny)) (hret := ?_))
  · have g : @LT.lt Nat _ (L + 1 + 1 + 1 + 1 + 1) lp := g1
    (show @Ne Nat lp (L + 1 + 1 + 1 + 1)); omega
  · have g : @LT.lt Nat _ (L + 1 + 1 + 1 + 1 + 1) lp := g1
    (show @Ne Nat lp (L + 1 + 1 + 1 + 1 + 1)); omega
  intro h9 tk9 m9 led9 F9 N9
  dsimp only
  refine execsC_cons (wpC_of (ret_true (st := lawAt 9) trivial ?_))
  exact hret _ _ _ _ F9 N9
end Mine
end

open PySem PySem.W PyProof.Rows PySem.Calls
set_option maxRecDepth 100000 in
set_option maxHeartbeats 8000000 in
set_option rowWalk.seconds 0 in
theorem PySem.Challenge.cw_rl0004_01_holds : PySem.Challenge.rw_rl0004_01.Holds := by
  refine Mine.hd ?_
  k_fill
  intro w s₀ s₁ mg mb G Y fa o pm cd doc dV kV ho hd hcd hD hmg hg args vals as hpre hlay hrd hwl hlo
  have KX := kIn_of Y
  have X := (Ground.X G).1
  have V := (Ground.X G).2
  refine Ground.open G ?_
  intro T B D TE TW
  wrow_args hpre hlay hrd hwl hlo
  refine Mine.enter_callC ?_
  have K0 := below_caller s₁.heap
  have he := Dflts.none hD rfl; subst he; have he := Dflts.noKw hD; subst he
  refine Mine.call_cellsC (by decide) ho (fd_plain hd) (Top.nolimit T) hcd rfl (kinds_of (by kinds_ok)) (by decide) fun h₁ tk₁ cells F N0 X0 => ?_
  cells_open X0
  refine' Mine.law_ok w _ _ _ _ s₁.heap s₁.heap.objs.size fa cd (fun _ => none) _ _ _ _ _ _ _ _ _ _ _ K0 KX T (by assumption) (by assumption) ?hlen ?d1 ?d2 ?d3 ?d4 ?d5 ?F ?N ?hret
  case N => exact kst_newsOf N0 (by kst_inAny)
  case F => exact F
  case hlen => omega
  case d1 => assumption
  case d2 => assumption
  case d3 => assumption
  case d4 => assumption
  case d5 => assumption
  case hret =>
    intro h9 tk9 m9 led9 F9 N9
    dsimp only
    refine GoodW.toG ?_
    wrow_close
